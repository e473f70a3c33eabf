/- The C40 encoder takes a character back. -/
import Derived.Test.YtcnallabiffemaaGreatDoorZt2
set_option linter.unusedVariables false
set_option linter.unusedSimpArgs false
namespace Go.Proofs.YtcnallabiffemaaGreatDoor
section
open Go.RowKit
section
variable {w0 w:World} {base c mb mcap shape:Nat} {msg:List Nat} {v:Value} {cw:List Nat} {pos ne:Int} {sym:Option (Nat×Nat)} {skip:Int}
theorem Ctx.grownB (h:Ctx w0 w base c mb mcap shape msg v cw pos ne sym skip) {g:Nat} {w':World} (hg:w.grownBy w' (some g)) (h1:base≤g) (hc:g≠c) (hs:∀i b,sym=some (i,b)→b≠g) (hv:v.ownBlock≠some g):
 Ctx w0 w' base c mb mcap shape msg v cw pos ne sym skip:=
 ⟨(hg.block c (lt_of_some h.blk) (fun e=>hc (Option.some.inj e).symm)).trans h.blk,h.own.kept hg (Or.inr hv),h.byt.grown hg (fun e=>by have:=Option.some.inj e;have:=h.b2;omega),
   h.below.grown hg h.below.size (fun k e=>by have:=Option.some.inj e;have:=h.b0;omega),h.b0,h.b1,h.b2,Nat.le_trans h.b3 hg.size,
   fun i b e=>(hg.block b (lt_of_some (h.syms i b e)) (fun e2=>hs i b e (Option.some.inj e2))).trans (h.syms i b e)⟩
theorem Fr.own {w w':World} {c bb g n cap:Nat} {v v':Value} {xs:List Nat} (h:Fr w w' c v v') (ho:Own w bb .u8 5 (.slice (some ⟨g,0,none⟩) n cap) xs) (hg:g≠c) (hv:v.ownBlock≠some g):Own w' bb .u8 5 (.slice (some ⟨g,0,none⟩) n cap) xs:=
 ho.of_block fun k e=>by
  simp only[Value.ownBlock,Option.some.injEq]at e
  subst e
  exact h.1 g (ho.lt g rfl).2 hg hv
theorem Own.ne_112 {w:World} {bb g n cap b i:Nat} {xs:List Nat} (ho:Own w bb .u8 5 (.slice (some ⟨g,0,none⟩) n cap) xs) (hb:w.heap[b]? =some (.cells (siOf i) 112)):b≠g:=by
 intro e
 obtain⟨cs,h1⟩:=ho.tag g rfl
 rw[←e,hb]at h1
 injection h1 with h1;injection h1 with _ h1
 exact absurd h1 (by decide)
theorem Own.cap_le {w:World} {bb g cap:Nat} {xs:List Nat} (ho:Own w bb .u8 5 (.slice (some ⟨g,0,none⟩) xs.length cap) xs):xs.length≤cap∧cap≤maxLen:=by
 rcases ho.look with⟨h1,-⟩|⟨g',cap',rest,hv,_,h2,_,h3,_⟩
 ·simp at h1
 ·simp only[Value.slice.injEq]at hv
  obtain⟨-,-,rfl⟩:=hv
  exact⟨h2,h3⟩
set_option maxRecDepth 100000 in
set_option maxHeartbeats 8000000 in
theorem eod2_calls {g cap i bb:Nat} {xs:List Nat} (h:Ctx w0 w base c mb mcap shape msg v cw pos ne sym 0) (hy:Own w bb .u8 5 (.slice (some ⟨g,0,none⟩) xs.length cap) xs) (hbb:base≤bb) (hbs:bb≤w.heap.size) (hg:g≠c) (hv:v.ownBlock≠some g)
 (hx:∀j,j<xs.length→xs.getD j 0<40) (hc1:0<cw.length) (hl:cw.length+xs.length≤4800) (hm:msg.length≤100000) (hs:shape<3) (hlk:lookSym ((cw.length+2*(xs.length/3):Nat):Int) shape=some i)
 (hj:∀j b,sym=some (j,b)→((cw.length+2*(xs.length/3):Nat):Int)≤dataOf j→j=i) (h3:xs.length%3=2):
 Calls Tryz.prog 206 #[.pointer (some ⟨c,0,none⟩),.slice (some ⟨g,0,none⟩) xs.length cap] w
  (EodPost w0 base c mb mcap shape msg (cw++trips (xs++[0])++if pos<(msg.length:Int)then[254]else[]) pos i):=by
 obtain⟨tl,htl⟩:∃tl:List Nat,tl=if pos<(msg.length:Int)then[254]else[]:=⟨_,rfl⟩
 rw[←htl]
 obtain⟨ys,hys⟩:∃ys,ys=xs++[0]:=⟨_,rfl⟩
 rw[←hys]
 have HYS:=Lib.hid hys
 obtain⟨L,hL⟩:∃L,L=xs.length:=⟨_,rfl⟩
 rw[←hL]at hy hl hlk hj h3 ⊢
 have H:=Lib.hid h
 have HY:=Lib.hid hy
 have LK:=Lib.hid hlk
 have HJ:=Lib.hid hj
 have HX:=Lib.hid hx
 have HL:=Lib.hid hL
 have HT:=Lib.hid htl
 clear hys
 have HV:=Lib.hid (And.intro hg hv)
 have hav:=look_le hlk
 have HAV:=Lib.hid hav
 clear h hy hlk hj hx hg hv htl hL
 have q3:(L:Int)%3=2:=by omega
 go_enter Tryz.func206,Tryz.ntmps206
 go_upto_region 8 with(first
  |(go_at_call 92;refine(count_calls H.out hc1).mono ?_;rintro e w2 ⟨rfl,rfl⟩)
  |(go_at_call 130;refine(updI_calls (len:=cw.length+2*(L/3)) (by omega) H.out hs LK.out HJ.out).mono ?_;rintro e w3 ⟨rfl,⟨sb,hc3⟩,hf3⟩;have HC:=Lib.hid hc3;have HF:=Lib.hid hf3;have k7:=hc3.c7;have sd:=si_data (hc3.syms i sb rfl);clear hc3 hf3)
  |(go_at_call 95;refine(getSym_calls k7).mono ?_;rintro e w4 ⟨rfl,rfl⟩)
  |(go_at_call 96;refine(getCap_calls sd).mono ?_;rintro e w5 ⟨rfl,rfl⟩))
 have HB:=Lib.hid (HF.out.own HY.out HV.out.1 HV.out.2)
 have hz5:=HF.out.2.1
 clear HF k7 sd H HY HJ LK HAV hav
 have hgg:=(HB.out.lt g rfl).1
 have hclt:c<w5.heap.size:=lt_of_some HC.out.blk
 have hyl:ys.length=L+1:=by rw[HYS.out,List.length_append,←HL.out];rfl
 have hyx:∀j,j<ys.length→ys.getD j 0<40:=by
  intro j hj
  rw[HYS.out,List.getD_eq_getElem?_getD]
  by_cases hjx:j<xs.length
  ·rw[List.getElem?_append_left hjx,←List.getD_eq_getElem?_getD];exact HX.out j hjx
  ·rw[List.getElem?_append_right (by omega)]
   have:j-xs.length=0:=by rw[hyl]at hj;have:=HL.out;omega
   rw[this];decide
 have HYL:=Lib.hid hyl
 have HYX:=Lib.hid hyx
 have hxl:xs.length≤4900:=by rw[←HL.out];omega
 clear hyl hyx HX
 go_upto_region 10 with(first
  |(refine app49L rfl (.tmp 35) (.tmp 36) rfl bb (.slice (some ⟨g,0,none⟩) L cap) xs rfl (HB.out.alloc _) w5.heap.size 1 1 [0] rfl rfl (by decide) (Bytes.one (c:=0) (n:=0) rfl) (by simp;omega) (by simp;omega) ?_;intro g2 cap2 w6 ho hgr hfr;have HO:=Lib.hid ho;have HG:=Lib.hid hgr;have HR:=Lib.hid hfr;clear ho hgr hfr))
 have hfr2:g2=g∨g2=w5.heap.size+1:=by
  rcases HR.out with h|h
  ·left;simpa[Value.ownBlock]using h.symm
  ·right;simpa using h
 have hvo:∀k,v.ownBlock=some k→k<w5.heap.size:=fun k e=>(HC.out.own.lt k e).2
 have HW:Hid (Wr w0 w6 base c mb mcap shape msg cw pos ne (some (i,sb)) g2 ys 0):=by
  have hc6:=(HC.out.alloc (.cells #[.int .u8 0] 5)).grownB (g:=g) HG.out (Nat.le_trans hbb hgg) HV.out.1 (fun i' b' e=>by cases e;exact HB.out.ne_112 (HC.out.syms _ _ rfl)) HV.out.2
  have ho:=HO.out
  rw[show xs.length+[0].length=ys.length by rw[HYS.out,List.length_append],←HYS.out]at ho
  refine⟨⟨v,by simpa[trips]using hc6,fun e=>?_⟩,ho.bytes,?_⟩
  ·rcases hfr2 with h|h
   ·rw[h]at e;exact HV.out.2 e
   ·have:=hvo _ e;omega
  ·rcases hfr2 with h|h
   ·rw[h];exact HV.out.1
   ·omega
 have hcap2:ys.length≤cap2∧cap2≤9223372036854775807:=by
  have ho:=HO.out
  rw[show xs.length+[0].length=ys.length by rw[HYS.out,List.length_append],←HYS.out]at ho
  have:=ho.cap_le
  exact⟨this.1,Nat.le_trans this.2 (by decide)⟩
 have hsl:xs.length+1=L+1:=by rw[←HL.out]
 rw[hsl]
 clear HO HG HR HB HC hfr2 hvo
 go_wp2
 go_loopw [1] (fun u wr=>∃k,3*k≤L+1∧RestOf g2 (L+1) cap2 k u∧Hid (Wr w0 wr base c mb mcap shape msg cw pos ne (some (i,sb)) g2 ys k)) (fun u _=>slLen u)
 case atStart=>exact⟨0,by omega,⟨0,by simp,fun _=>rfl⟩,HW⟩
 case round=>
  clear HW
  obtain⟨k,hk,⟨o,rfl,ho⟩,HW⟩:=hrel
  by_cases hk3:3*k+3≤L+1
  ·have hge:((L+1-3*k:Nat):Int)≥3:=by omega
   have hok:=ho (by omega)
   have ST:=HW.out.step (o:=o) (cap:=cap2) (by rw[HYL.out];exact hk3) HYX.out hok hcap2.1 hcap2.2 (by rw[HYL.out];omega)
   rw[HYL.out]at ST
   have ST:=Lib.hid ST
   clear ho hok
   go_wp2_with (first|(go_at_call 208;refine ST.out.mono ?_;rintro e w7 ⟨⟨u,rfl,hu⟩,hw7⟩;have HW7:=Lib.hid hw7;clear hw7))
   obtain⟨o2,rfl,ho2⟩:=hu
   exact⟨⟨k+1,by omega,⟨o2,rfl,ho2⟩,HW7⟩,by simp[slLen];omega⟩
  ·have hge:¬((L+1-3*k:Nat):Int)≥3:=by omega
   obtain rfl:k=(L+1)/3:=by omega
   have hLk:L+1-3*((L+1)/3)=0:=by omega
   obtain⟨⟨v',hcx,-⟩,-,-⟩:=HW.out
   have e1:ys.take (3*((L+1)/3))=ys:=List.take_of_length_le (by rw[HYL.out];omega)
   rw[e1]at hcx
   have HCX:=Lib.hid hcx
   have hcl:(cw++trips ys).length≤4990:=by rw[List.length_append,trips_len _ ys (Nat.le_refl _),HYL.out];omega
   clear hcx e1 HW ho
   generalize cw++trips ys=cw2 at*
   have MO:=fun w' (h':Ctx w0 w' base c mb mcap shape msg v' cw2 pos ne (some (i,sb)) 0)=>more_calls h' hm (Int.le_refl 0) (by decide)
   simp only[Int.sub_zero]at MO
   have MO:=Lib.hid MO
   by_cases hp:pos<(msg.length:Int)
   ·have ht:tl=[254]:=by rw[HT.out,if_pos hp]
    have hp2:decide (pos<(msg.length:Int))=true:=decide_eq_true hp
    subst ht
    clear HT
    rw[hp2]at MO
    go_wp2_with (first
     |(go_at_call 89;refine(MO.out _ HCX.out).mono ?_;rintro e w7 ⟨rfl,nm,rfl⟩)
     |(go_at_call 87;refine(putC_calls (HCX.out.drewN _) 254 _ rfl (by omega)).mono ?_;rintro e w8 ⟨rfl,v8,hc8⟩;have HC8:=Lib.hid hc8;clear hc8)
     |(go_at_call 176;refine(signal_calls HC8.out 0).mono ?_;rintro e w9 ⟨rfl,hc9⟩;have HC9:=Lib.hid hc9;clear hc9))
    go_ret
    exact⟨rfl,_,_,HC9.out⟩
   ·have ht:tl=[]:=by rw[HT.out,if_neg hp]
    have hp2:decide (pos<(msg.length:Int))=false:=decide_eq_false hp
    subst ht
    clear HT
    rw[hp2]at MO
    go_wp2_with (first
     |(go_at_call 89;refine(MO.out _ HCX.out).mono ?_;rintro e w7 ⟨rfl,nm,rfl⟩)
     |(go_at_call 176;refine(signal_calls (HCX.out.drewN _) 0).mono ?_;rintro e w9 ⟨rfl,hc9⟩;have HC9:=Lib.hid hc9;clear hc9))
    go_ret
    exact⟨rfl,_,_,by rw[List.append_nil];exact HC9.out⟩
end
end
section
open Go.RowKit
section
variable {w0 w:World} {base c mb mcap shape:Nat} {msg:List Nat} {v:Value} {cw:List Nat} {pos ne:Int} {sym:Option (Nat×Nat)}
set_option maxRecDepth 100000 in
set_option maxHeartbeats 8000000 in
theorem eod1_calls {g cap i:Nat} {xs:List Nat} (h:Ctx w0 w base c mb mcap shape msg v cw pos ne sym 0) (hy:Bytes w g xs) (hg:g≠c) (hv:v.ownBlock≠some g) (hcap:xs.length≤cap) (hc2:cap≤9223372036854775807)
 (hx:∀j,j<xs.length→xs.getD j 0<40) (hc1:0<cw.length) (hl:cw.length+xs.length≤4900) (hm:msg.length≤100000) (hs:shape<3) (hlk:lookSym ((cw.length+2*(xs.length/3):Nat):Int) shape=some i)
 (hj:∀j b,sym=some (j,b)→((cw.length+2*(xs.length/3):Nat):Int)≤dataOf j→j=i) (h3:xs.length%3=1) (ha1:dataOf i-((cw.length+2*(xs.length/3):Nat):Int)=1) (hp0:0≤pos) (hp1:pos≤100000):
 Calls Tryz.prog 206 #[.pointer (some ⟨c,0,none⟩),.slice (some ⟨g,0,none⟩) xs.length cap] w
  (EodPost w0 base c mb mcap shape msg (cw++trips (xs.take (3*(xs.length/3)))++if pos<(msg.length:Int)then[254]else[]) (pos-1) i):=by
 obtain⟨tl,htl⟩:∃tl:List Nat,tl=if pos<(msg.length:Int)then[254]else[]:=⟨_,rfl⟩
 rw[←htl]
 obtain⟨L,hL⟩:∃L,L=xs.length:=⟨_,rfl⟩
 rw[←hL]at hcap hl hlk hj h3 ha1 ⊢
 have H:=Lib.hid h
 have HY:=Lib.hid hy
 have LK:=Lib.hid hlk
 have HJ:=Lib.hid hj
 have HX:=Lib.hid hx
 have HL:=Lib.hid hL
 have HT:=Lib.hid htl
 have HV:=Lib.hid (And.intro hg hv)
 have hav:=look_le hlk
 have HAV:=Lib.hid hav
 clear h hy hlk hj hx hg hv htl hL
 have q3:(L:Int)%3=1:=by omega
 go_enter Tryz.func206,Tryz.ntmps206
 go_upto_region 8 with(first
  |(go_at_call 92;refine(count_calls H.out hc1).mono ?_;rintro e w2 ⟨rfl,rfl⟩)
  |(go_at_call 130;refine(updI_calls (len:=cw.length+2*(L/3)) (by omega) H.out hs LK.out HJ.out).mono ?_;rintro e w3 ⟨rfl,⟨sb,hc3⟩,hf3⟩;have HC:=Lib.hid hc3;have HF:=Lib.hid hf3;have k7:=hc3.c7;have sd:=si_data (hc3.syms i sb rfl);clear hc3 hf3)
  |(go_at_call 95;refine(getSym_calls k7).mono ?_;rintro e w4 ⟨rfl,rfl⟩)
  |(go_at_call 96;refine(getCap_calls sd).mono ?_;rintro e w5 ⟨rfl,rfl⟩))
 have HW:Hid (Wr w0 w5 base c mb mcap shape msg cw pos ne (some (i,sb)) g xs 0):=by
  obtain⟨b1,b2⟩:=HF.out.bytes HY.out HV.out.1 HV.out.2
  exact⟨⟨v,by simpa[trips]using HC.out,b2⟩,b1,HV.out.1⟩
 have hb1:(dataOf i-((cw.length:Int)+(L:Int)/3*2)==1)=true:=by rw[beq_iff_eq];omega
 have htl2:Hid (tl=if pos<(msg.length:Int)then[254]else[]):=HT
 clear HT HC HF k7 sd H HY HJ LK
 generalize dataOf i-((cw.length:Int)+(L:Int)/3*2)=av at*
 ·skip
  go_wp2
  go_loopw [1] (fun u wr=>∃k,3*k≤L∧RestOf g L cap k u∧Hid (Wr w0 wr base c mb mcap shape msg cw pos ne (some (i,sb)) g xs k)) (fun u _=>slLen u)
  case atStart=>exact⟨0,by omega,⟨0,by simp,fun _=>rfl⟩,HW⟩
  case round=>
   clear HW
   obtain⟨k,hk,⟨o,rfl,ho⟩,HW⟩:=hrel
   by_cases hk3:3*k+3≤L
   ·have hge:((L-3*k:Nat):Int)≥3:=by omega
    have hok:=ho (by omega)
    have ST:=HW.out.step (o:=o) (cap:=cap) (by rw[←HL.out];exact hk3) HX.out hok (by rw[←HL.out];exact hcap) hc2 (by rw[←HL.out];exact hl)
    rw[←HL.out]at ST
    have ST:=Lib.hid ST
    clear ho hok
    go_wp2_with (first|(go_at_call 208;refine ST.out.mono ?_;rintro e w6 ⟨⟨u,rfl,hu⟩,hw6⟩;have HW6:=Lib.hid hw6;clear hw6))
    obtain⟨o2,rfl,ho2⟩:=hu
    exact⟨⟨k+1,by omega,⟨o2,rfl,ho2⟩,HW6⟩,by simp[slLen];omega⟩
   ·have hge:¬((L-3*k:Nat):Int)≥3:=by omega
    obtain rfl:k=L/3:=by omega
    have hLk:L-3*(L/3)=1:=by omega
    obtain⟨⟨v',hcx,-⟩,-,-⟩:=HW.out
    have HCX:=Lib.hid hcx
    have hcl:(cw++trips (xs.take (3*(L/3)))).length≤4990:=by rw[List.length_append,trips_len _ _ (Nat.le_refl _),List.length_take,←HL.out];omega
    clear hcx HW ho
    generalize cw++trips (xs.take (3*(L/3)))=cw2 at*
    have MO:=fun w' (h':Ctx w0 w' base c mb mcap shape msg v' cw2 pos ne (some (i,sb)) 0)=>more_calls h' hm (Int.le_refl 0) (by decide)
    simp only[Int.sub_zero]at MO
    have MO:=Lib.hid MO
    by_cases hp:pos<(msg.length:Int)
    ·have ht:tl=[254]:=by rw[htl2.out,if_pos hp]
     have hp2:decide (pos<(msg.length:Int))=true:=decide_eq_true hp
     subst ht
     clear htl2
     rw[hp2]at MO
     go_wp2_with (first
      |(go_at_call 89;refine(MO.out _ HCX.out).mono ?_;rintro e w6 ⟨rfl,nm,rfl⟩)
      |(go_at_call 87;refine(putC_calls (HCX.out.drewN _) 254 _ rfl (by omega)).mono ?_;rintro e w7 ⟨rfl,v7,hc7⟩;have HC7:=Lib.hid hc7;have k5:=hc7.c5;have f5:=frozen_blk hc7.blk 5;clear hc7)
      |(go_at_call 176;refine(signal_calls (HC7.out.setPos (pos-1)) 0).mono ?_;rintro e w8 ⟨rfl,hc8⟩;have HC8:=Lib.hid hc8;clear hc8))
     go_ret
     exact⟨rfl,_,_,HC8.out⟩
    ·have ht:tl=[]:=by rw[htl2.out,if_neg hp]
     have hp2:decide (pos<(msg.length:Int))=false:=decide_eq_false hp
     subst ht
     clear htl2
     rw[hp2]at MO
     have k5:=fun n=>(HCX.out.drewN n).c5
     have f5:=fun n=>frozen_blk (HCX.out.drewN n).blk 5
     go_wp2_with (first
      |(go_at_call 89;refine(MO.out _ HCX.out).mono ?_;rintro e w6 ⟨rfl,nm,rfl⟩;have k5':=k5 nm;have f5':=f5 nm)
      |(go_at_call 176;refine(signal_calls ((HCX.out.drewN _).setPos (pos-1)) 0).mono ?_;rintro e w8 ⟨rfl,hc8⟩;have HC8:=Lib.hid hc8;clear hc8))
     go_ret
     exact⟨rfl,_,_,by rw[List.append_nil];exact HC8.out⟩
end
end
section
open Go.RowKit
section
variable {w0 w:World} {base c mb mcap shape:Nat} {msg:List Nat} {v:Value} {cw:List Nat} {pos ne:Int} {sym:Option (Nat×Nat)} {skip:Int}
theorem Own.take {w:World} {bb g cap:Nat} {xs:List Nat} (h:Own w bb .u8 5 (.slice (some ⟨g,0,none⟩) xs.length cap) xs) (n:Nat) (hn:n≤xs.length):Own w bb .u8 5 (.slice (some ⟨g,0,none⟩) n cap) (xs.take n):=by
 have e:(xs.take n).length=n:=by rw[List.length_take];omega
 refine⟨by simp[nl],?_⟩
 rw[e]
 rcases h.2 with⟨h1,-⟩|⟨g',cap',cur,hv,hg,hh,hl,hm,hs,ht⟩
 ·simp at h1
 ·simp only[Value.slice.injEq,Option.some.injEq,Addr.mk.injEq,and_true,true_and]at hv
  obtain⟨rfl,rfl⟩:=hv
  refine .inr ⟨g,cap,cur,rfl,hg,hh,by omega,hm,hs,?_⟩
  have h2:=congrArg (List.take n) ht
  rw[List.take_take]at h2
  rw[Nat.mul_one]at h2 ⊢
  rw[Nat.min_eq_left hn]at h2
  rw[h2]
  simp[nl,List.map_take]
theorem Ctx.keepB (h:Ctx w0 w base c mb mcap shape msg v cw pos ne sym skip) {B:Nat} {w':World} (hb:Below B w w') (h1:base≤B) (hc:c<B) (hs:∀i b,sym=some (i,b)→b<B) (hv:∀g,v.ownBlock=some g→g<B):
 Ctx w0 w' base c mb mcap shape msg v cw pos ne sym skip:=
 ⟨(hb.block c hc).trans h.blk,h.own.below hb hv,h.byt.below hb (by have:=h.b2;omega),h.below.trans (hb.mono (by have:=h.b0;omega)),h.b0,h.b1,h.b2,Nat.le_trans h.b3 hb.size,
   fun i b e=>(hb.block b (hs i b e)).trans (h.syms i b e)⟩
def valsOf (fn ch:Nat):List Nat:=if fn=124 then cVals ch else tVals ch
theorem chars_calls {w:World} {fn bb ch:Nat} {v:Value} {xs:List Nat} (hf:fn=124∨fn=125) (h:Own w bb .u8 5 v xs) (hb:bb≤w.heap.size) (hl:xs.length≤4000) (h4:clsOf ch<4):
 Calls Tryz.prog fn #[.int .u8 ch,v] w (CharPost bb w v xs (valsOf fn ch)):=by
 rcases hf with rfl|rfl
 ·exact cChar_calls h hb hl h4
 ·exact tChar_calls h hb hl h4
def BackPost (w0:World) (base c mb mcap shape:Nat) (msg:List Nat) (v:Value) (cw:List Nat) (p ne:Int) (skip:Int) (bb g n cap:Nat) (xs:List Nat) (bb2:Nat) (rs vals:List Nat) (eb:Nat) (w:World) (e:Ending) (w':World):Prop:=
 ∃rv,e= .returned (.tuple #[.int .i64 vals.length,.slice (some ⟨g,0,none⟩) n cap,rv])∧Ctx w0 w' base c mb mcap shape msg v cw p ne none skip∧Own w' bb .u8 5 (.slice (some ⟨g,0,none⟩) n cap) xs∧Own w' bb2 .u8 5 rv (rs++vals)∧
  w'.heap[eb]? =w.heap[eb]? ∧w.heap.size≤w'.heap.size
theorem resetSym2_calls (h:Ctx w0 w base c mb mcap shape msg v cw pos ne sym skip):
 Calls Tryz.prog 207 #[.pointer (some ⟨c,0,none⟩)] w fun e w'=>e= .returned (.tuple #[])∧Ctx w0 w' base c mb mcap shape msg v cw pos ne none skip∧w'=w.setCell ⟨c,7,none⟩ (.pointer none):=by
 have k7:=h.c7
 have f7:=frozen_blk h.blk 7
 have HN:=Lib.hid h.noSym
 clear h
 go_enter Tryz.func207,Tryz.ntmps207
 go_wp2
 go_end0
 exact⟨rfl,HN.out,rfl⟩
set_option maxRecDepth 100000 in
set_option maxHeartbeats 8000000 in
theorem back_calls {fn eb et bb bb2 g cap s p:Nat} {mode:Int} {xs rs:List Nat} {rv:Value} (hfn:fn=124∨fn=125) (h:Ctx w0 w base c mb mcap shape msg v cw pos ne sym skip) (hp:pos-1=(p:Int)) (hpl:p<msg.length) (hm:msg.length≤100000)
 (he:w.heap[eb]? =some (.cells #[.int .i64 mode,.func (.func fn) #[] #[]] et)) (hec:eb≠c) (hy:Own w bb .u8 5 (.slice (some ⟨g,0,none⟩) xs.length cap) xs) (hg:g≠c) (hr:Own w bb2 .u8 5 rv rs) (hrl:rs.length≤4000) (hb2:bb2≤w.heap.size)
 (hB:base≤bb2∧c<bb2∧eb<bb2∧g<bb2∧(∀k,v.ownBlock=some k→k<bb2)∧∀i b,sym=some (i,b)→b<bb2) (hs:s≤xs.length) (hx:xs.length≤100000) (h4:clsOf (msg.getD p 0)<4):
 Calls Tryz.prog 205 #[.pointer (some ⟨eb,0,none⟩),.pointer (some ⟨c,0,none⟩),.slice (some ⟨g,0,none⟩) xs.length cap,rv,.int .i64 s] w
  (BackPost w0 base c mb mcap shape msg v cw (p:Int) ne skip bb g (xs.length-s) cap (xs.take (xs.length-s)) bb2 rs (valsOf fn (msg.getD p 0)) eb w):=by
 have H:=Lib.hid h
 have k5:=h.c5
 have f5:=frozen_blk h.blk 5
 have HE:=Lib.hid he
 have e1:w.cell? ⟨eb,1,none⟩=some (.func (.func fn) #[] #[]):=by rw[cell_blk he];rfl
 have hcl:=hy.cap_le
 have HY:=Lib.hid hy
 have HR:=Lib.hid hr
 have HBB:=Lib.hid hB
 have hpb:0≤pos∧pos≤100001:=by omega
 have HP:Hid (Ctx w0 (w.setCell ⟨c,5,none⟩ (.int .i64 (pos-1))) base c mb mcap shape msg v cw (p:Int) ne sym skip):=by rw[hp];exact Lib.hid (h.setPos (p:Int))
 have e1':(w.setCell ⟨c,5,none⟩ (.int .i64 (pos-1))).cell? ⟨eb,1,none⟩=some (.func (.func fn) #[] #[]):=by
  rw[←e1];exact World.cell?_of_block (w:=w) (Below.heap_setCell _ _ _ _ (by simpa using hec))
 have HR':=Lib.hid (hr.set_ne (a:=⟨c,5,none⟩) (fun e=>by have h7:=(hr.lt c e).1;have h8:=hB.2.1;omega) (.int .i64 (pos-1)))
 have hz':(w.setCell ⟨c,5,none⟩ (.int .i64 (pos-1))).heap.size=w.heap.size:=by simp[World.setCell]
 obtain⟨n,hn⟩:∃n,n=xs.length-s:=⟨_,rfl⟩
 have hsi:((xs.length:Nat):Int)-(s:Int)=(n:Int):=by omega
 have HN:=Lib.hid hn
 rw[←hn]
 have hn1:0≤(n:Int):=by omega
 have hn2:(n:Int)≤(cap:Int):=by omega
 obtain⟨ch,hch⟩:∃ch,ch=msg.getD p 0:=⟨_,rfl⟩
 have CUR:=cur_calls HP.out hm hpl
 rw[←hch]at CUR h4 ⊢
 have CUR:=Lib.hid CUR
 have hz2:∀nm,bb2≤((w.setCell ⟨c,5,none⟩ (.int .i64 (pos-1))).drewN nm).heap.size:=fun nm=>Nat.le_trans hb2 (Nat.le_of_eq hz'.symm)
 clear h he hy hr hB hn hp hch
 rcases hfn with rfl|rfl
 ·go_enter Tryz.func205,Tryz.ntmps205
  go_wp2_with (first
   |(go_at_call 174;refine CUR.out.mono ?_;rintro e w2 ⟨rfl,nm,rfl⟩)
   |(go_at_call 124;refine(cChar_calls (HR'.out.drewN _) (hz2 _) hrl h4).mono ?_;rintro e w3 ⟨rv',rfl,hr3,hb3,hg3⟩;have HR3:=Lib.hid hr3;have HB3:=Lib.hid hb3;clear hr3 hb3 hg3)
   |(go_at_call 207;refine(resetSym2_calls ((HP.out.drewN _).keepB HB3.out HBB.out.1 HBB.out.2.1 HBB.out.2.2.2.2.2 HBB.out.2.2.2.2.1)).mono ?_;rintro e w4 ⟨rfl,hc4,hw4⟩;have HC4:=Lib.hid hc4;have HW4:=Lib.hid hw4;clear hc4 hw4))
  refine bodyPost_ret (v:= .tuple #[.int .i64 (cVals ch).length,.slice (some ⟨g,0,none⟩) n cap,rv']) (by simp[results,Tryz.results205,go_sem]) rfl ⟨rv',rfl,HC4.out,?_,?_,?_,?_⟩
  ·have hy3:=((HY.out.set_ne (a:=⟨c,5,none⟩) (by simpa[Value.ownBlock]using hg) (.int .i64 (pos-1))).drewN nm).below HB3.out (fun k e=>by simp only[Value.ownBlock,Option.some.injEq]at e;have:=HBB.out.2.2.2.1;omega)
   rw[HW4.out]
   exact(hy3.set_ne (a:=⟨c,7,none⟩) (by simpa[Value.ownBlock]using hg) _).take n (by rw[HN.out];omega)
  ·rw[HW4.out]
   exact HR3.out.set_ne (fun e=>by have h7:=(HR3.out.lt c e).1;have h8:=HBB.out.2.1;omega) _
  ·rw[HW4.out,Below.heap_setCell _ _ _ _ (by simpa using hec),HB3.out.block eb HBB.out.2.2.1]
   exact Below.heap_setCell _ _ _ _ (by simpa using hec)
  ·have h9:=HB3.out.size
   rw[HW4.out]
   simpa[World.setCell]using h9
 ·go_enter Tryz.func205,Tryz.ntmps205
  go_wp2_with (first
   |(go_at_call 174;refine CUR.out.mono ?_;rintro e w2 ⟨rfl,nm,rfl⟩)
   |(go_at_call 125;refine(tChar_calls (HR'.out.drewN _) (hz2 _) hrl h4).mono ?_;rintro e w3 ⟨rv',rfl,hr3,hb3,hg3⟩;have HR3:=Lib.hid hr3;have HB3:=Lib.hid hb3;clear hr3 hb3 hg3)
   |(go_at_call 207;refine(resetSym2_calls ((HP.out.drewN _).keepB HB3.out HBB.out.1 HBB.out.2.1 HBB.out.2.2.2.2.2 HBB.out.2.2.2.2.1)).mono ?_;rintro e w4 ⟨rfl,hc4,hw4⟩;have HC4:=Lib.hid hc4;have HW4:=Lib.hid hw4;clear hc4 hw4))
  refine bodyPost_ret (v:= .tuple #[.int .i64 (tVals ch).length,.slice (some ⟨g,0,none⟩) n cap,rv']) (by simp[results,Tryz.results205,go_sem]) rfl ⟨rv',rfl,HC4.out,?_,?_,?_,?_⟩
  ·have hy3:=((HY.out.set_ne (a:=⟨c,5,none⟩) (by simpa[Value.ownBlock]using hg) (.int .i64 (pos-1))).drewN nm).below HB3.out (fun k e=>by simp only[Value.ownBlock,Option.some.injEq]at e;have:=HBB.out.2.2.2.1;omega)
   rw[HW4.out]
   exact(hy3.set_ne (a:=⟨c,7,none⟩) (by simpa[Value.ownBlock]using hg) _).take n (by rw[HN.out];omega)
  ·rw[HW4.out]
   exact HR3.out.set_ne (fun e=>by have h7:=(HR3.out.lt c e).1;have h8:=HBB.out.2.1;omega) _
  ·rw[HW4.out,Below.heap_setCell _ _ _ _ (by simpa using hec),HB3.out.block eb HBB.out.2.2.1]
   exact Below.heap_setCell _ _ _ _ (by simpa using hec)
  ·have h9:=HB3.out.size
   rw[HW4.out]
   simpa[World.setCell]using h9
end
end
end Go.Proofs.YtcnallabiffemaaGreatDoor
