/- An append to an owned row of bytes: where the new row lies, what it leaves as it is. -/
import Derived.Test.YtcnallabiffemaaGreatDoorZg9
import Derived.Outline
import Derived.Test.YtcnallabiffemaaGreatDoorZs5
import Derived.StillTailTactics
import Derived.Deep.CutRange
import Derived.Deep.DeepCutAuto
import Derived.BigRegion
import Derived.Deep.MidRow
import Derived.Deep.RegionHeld3
import Derived.Deep.AppendLies
set_option linter.unusedVariables false
set_option linter.unusedSimpArgs false
namespace Go.Proofs.YtcnallabiffemaaGreatDoor
section
open Go.RowKit
theorem hme:∀w:World,(method 334 158 (Value.agg #[]) "zxdatamatrix/pub/zxdmencoder.encode").run Tryz.prog w= .ok (169,Value.agg #[]) w:=fun _=>by kernel_rfl
def s6:ByteArray:=⟨#[49,50,51,52,53,54]⟩
def d6:List Nat:=[49,50,51,52,53,54]
def c6:List Nat:=[142,164,186]
theorem dig6:∀k,k<3→2≤digRun (d6.drop (2*k)):=by decide+kernel
theorem pair6:∀k,k<3→c6.take k++[pairOf (d6.getD (2*k) 0) (d6.getD (2*k+1) 0)]=c6.take (k+1):=by decide+kernel
theorem look6:lookSym (3:Nat) 0=some 0:=by decide+kernel
theorem noHead6:noHead s6:=by unfold noHead;exact⟨by decide+kernel,by decide+kernel⟩
theorem small6:Small d6:=small_of_mem (by decide+kernel)
theorem zz6 (w:World):Calls Tryz.prog 126 #[.int .i64 1,.string s6] w (HighPost d6 w):=
 zz_calls d6 rfl (by decide+kernel) (fun k=>by
  rcases Nat.lt_or_ge k 6 with h|h
  ·exact(by decide+kernel:∀k,k<6→d6.getD k 0<128) k h
  ·rw[List.getD_eq_getElem?_getD,List.getElem?_eq_none (by simpa[d6]using h)];decide) (by decide) (by decide)
def posAt (w:World) (c:Nat):Nat:=match w.cell? ⟨c,5,none⟩with|some (.int _ n)=>n.toNat|_=>0
theorem Ctx.posAt {w0 w:World} {base c mb mcap shape:Nat} {msg:List Nat} {v:Value} {cw:List Nat} {p:Nat} {ne:Int} {sym:Option (Nat×Nat)} {skip:Int}
 (h:Ctx w0 w base c mb mcap shape msg v cw p ne sym skip):posAt w c=p:=by unfold Proofs.YtcnallabiffemaaGreatDoor.posAt;rw[h.c5];rfl
theorem ctx_start {w W1 w3:World} {base c mb mcap shape:Nat} {msg:List Nat} {v:Value} {cw:List Nat} {pos ne:Int} {sym:Option (Nat×Nat)} {skip:Int} {B:Nat} {o:Obj}
 (h:Ctx W1 w3 base c mb mcap shape msg v cw pos ne sym skip) (hb:Below w.heap.size w W1) (ht:W1.heap[B]? =some o):
 ∃W0,Ctx W0 w3 base c mb mcap shape msg v cw pos ne sym skip∧Below w.heap.size w W0∧W0.heap[B]? =some o:=⟨W1,h,hb,ht⟩
theorem next2 (k:Nat):((2*k:Nat):Int)+2=((2*(k+1):Nat):Int):=by omega
theorem getSym_calls {w:World} {c:Nat} {v:Value} (h:w.cell? ⟨c,7,none⟩=some v):Calls Tryz.prog 95 #[.pointer (some ⟨c,0,none⟩)] w fun e w'=>e= .returned v∧w'=w:=by
 go_enter Tryz.func95,Tryz.ntmps95
 go_wp2
 go_ret
 exact⟨rfl,rfl⟩
theorem getCap_calls {w:World} {b:Nat} {v:Value} (h:w.cell? ⟨b,1,none⟩=some v):Calls Tryz.prog 96 #[.pointer (some ⟨b,0,none⟩)] w fun e w'=>e= .returned v∧w'=w:=by
 go_enter Tryz.func96,Tryz.ntmps96
 go_wp2
 go_ret
 exact⟨rfl,rfl⟩
theorem getCw_calls {w:World} {c:Nat} {v:Value} (h:w.cell? ⟨c,4,none⟩=some v):Calls Tryz.prog 97 #[.pointer (some ⟨c,0,none⟩)] w fun e w'=>e= .returned v∧w'=w:=by
 go_enter Tryz.func97,Tryz.ntmps97
 go_wp2
 go_ret
 exact⟨rfl,rfl⟩
set_option maxRecDepth 100000 in
set_option maxHeartbeats 4000000 in
theorem high6 (w:World):Calls Tryz.prog 46 #[.string s6,.int .i64 0,.pointer none,.pointer none] w (HighPost c6 w):=by
 have H126:=Lib.hid zz6
 have hno:=noHead6
 have HNO:=Lib.hid hno
 clear hno
 generalize s6=s at*
 go_enter Tryz.func46,Tryz.ntmps46
 go_wp2_with (first|(go_at_call 82;refine(newC_calls (H126.out _) (by decide) (by decide) small6).mono ?_;rintro e w1 ⟨base,c,mb,mcap,v0,rfl,hc⟩;have HC:=Lib.hid hc;clear hc)|(go_at_call 83;refine(setShape_calls HC.out 0).mono ?_;rintro e w2 ⟨rfl,hc⟩;have HC:=Lib.hid hc;clear hc)|(go_at_call 84;refine(setSize_calls HC.out).mono ?_;rintro e w3 ⟨rfl,hc⟩;have HC:=Lib.hid hc;clear hc)|(go_at_call 85;first|(refine(pre5_calls HNO.out).mono ?_;rintro e w4 ⟨rfl,rfl⟩)|(refine(pre6_calls HNO.out).mono ?_;rintro e w5 ⟨rfl,rfl⟩))|(go_at_call 76;go_in)|(go_at_call 77;go_in)|(go_at_call 78;go_in)|(go_at_call 79;go_in)|(go_at_call 80;go_in)|(go_at_call 81;go_in))
 obtain⟨W0,hC0,hB0,hT0⟩:=ctx_start HC.out ((((Below.refl _ _).alloc (Nat.le_refl _) _).alloc (by simp) _).alloc (by simp;omega) _) (new_last (n:=w.heap.size+1+1) (by simp) _)
 have HC0:=Lib.hid hC0
 have HB0:=Lib.hid hB0
 have HT0:=Lib.hid hT0
 clear hC0 hB0 hT0
 go_loopw [13] (fun m wr=>m= .int .i64 0∧∃k v,k≤3∧Hid (Ctx W0 wr base c mb mcap 0 d6 v (c6.take k) ((2*k:Nat):Int) (-1) none 0)) (fun _ wr=>6-posAt wr c)
 case atStart=>exact⟨rfl,0,_,by omega,HC0.out⟩
 case round=>
  obtain⟨rfl,k,v,hk,hc⟩:=hrel
  have hm0:=hme
  have e1:=cell_blk ((hc.out.below.block _ (lt_of_some HT0.out)).trans HT0.out) 0
  by_cases hlt:k<3
  ·have hdt:decide (((2*k:Nat):Int)<(d6.length:Int)-0)=true:=by simp[d6];omega
   have HP:=Lib.hid (pair6 k hlt)
   have HCL:=Lib.hid (show (c6.take k).length≤5000 by simp[c6];omega)
   have HN:=Lib.hid (next2 k)
   have HPA:=Lib.hid hc.out.posAt
   go_wp2_with (first|(go_at_call 89;refine(more_calls hc.out (by decide) (by omega) (by omega)).mono ?_;rintro e w6 ⟨rfl,n6,rfl⟩;rw[hdt])|(go_at_call 169;refine(asciiPair_calls (hc.out.drewN _) (by decide) HCL.out (dig6 k hlt)).mono ?_;rintro e w7 ⟨rfl,v7,hc7⟩;have k6:=hc7.c6;rw[HP.out,HN.out]at hc7;have HC7:=Lib.hid hc7;have HQ:=Lib.hid hc7.posAt;clear hc7)|(go_at_call 90;go_in))
   exact⟨⟨rfl,k+1,v7,by omega,HC7⟩,by rw[HPA.out,HQ.out];omega⟩
  ·obtain rfl:3=k:=by omega
   obtain⟨g,cap,hv⟩:=hc.out.own.slice (by decide)
   have h3:=hc.out
   rw[hv]at h3
   have H3:Hid (Ctx W0 wr base c mb mcap 0 d6 (.slice (some ⟨g,0,none⟩) 3 cap) c6 ((6:Nat):Int) (-1) none 0):=Lib.hid h3
   clear h3 hc hv e1
   have hdt:decide (((6:Nat):Int)<(d6.length:Int)-0)=false:=by decide
   have cnt:∀n,Calls Tryz.prog 92 #[.pointer (some ⟨c,0,none⟩)] (wr.drewN n) fun e w'=>e= .returned (.int .i64 3)∧w'=wr.drewN n:=fun n=>count_calls (H3.out.drewN n) (by decide)
   go_wp2_with (first|(go_at_call 89;refine(more_calls H3.out (by decide) (by omega) (by omega)).mono ?_;rintro e w6 ⟨rfl,n6,rfl⟩;rw[hdt])|(go_at_call 92;refine(cnt _).mono ?_;rintro e w7 ⟨rfl,rfl⟩)|(go_at_call 93;refine(upd93_calls (H3.out.drewN _) (by omega) look6 (by decide)).mono ?_;rintro e w8 ⟨rfl,b8,hc8⟩;have k7:w8.cell? ⟨c,7,none⟩=some (.pointer (some ⟨b8,0,none⟩)):=hc8.c7;have k1:w8.cell? ⟨b8,1,none⟩=some (.int .i64 3):=si_data (hc8.syms 0 b8 rfl);have k4:=hc8.c4;have f4:=frozen_blk hc8.blk 4;have HC8:=Lib.hid hc8;clear hc8)|(go_at_call 95;refine(getSym_calls k7).mono ?_;rintro e w9 ⟨rfl,rfl⟩)|(go_at_call 96;refine(getCap_calls k1).mono ?_;rintro e w10 ⟨rfl,rfl⟩)|(go_at_call 97;refine(getCw_calls k4).mono ?_;rintro e w11 ⟨rfl,rfl⟩))
   have hsame:Ctx W0 (w11.setCell ⟨c,4,none⟩ (.slice (some ⟨g,0,none⟩) 3 cap)) base c mb mcap 0 d6 (.slice (some ⟨g,0,none⟩) 3 cap) c6 ((6:Nat):Int) (-1) (some (0,b8)) 0:=HC8.out.upd (k:=4) rfl
   have l4:=hsame.c4
   have HS:=Lib.hid hsame
   clear hsame
   refine wp_loop_rounds 1 ?_
   rw[rounds_succ]
   go_wp2_with (go_at_call 97;refine(getCw_calls l4).mono ?_;rintro e w12 ⟨rfl,rfl⟩)
   go_ret2
   have hh:=HS.out
   have hz:=HB0.out.size
   have hw0:W0.heap.size≤base:=hh.b0
   exact⟨_,rfl,hh.own.base (by omega),HB0.out.trans (hh.below.mono hz)⟩
end
section
open Go.RowKit
section
variable {w0 w:World} {base c mb mcap shape:Nat} {msg:List Nat} {v:Value} {cw:List Nat} {pos ne:Int} {sym:Option (Nat×Nat)} {skip:Int}
theorem signal_calls (h:Ctx w0 w base c mb mcap shape msg v cw pos ne sym skip) (n:Int):
 Calls Tryz.prog 176 #[.pointer (some ⟨c,0,none⟩),.int .i64 n] w fun e w'=>e= .returned (.tuple #[])∧Ctx w0 w' base c mb mcap shape msg v cw pos n sym skip:=by
 have k6:=h.c6
 have f6:=frozen_blk h.blk 6
 have HN:=Lib.hid (h.setNe n)
 clear h
 go_enter Tryz.func176,Tryz.ntmps176
 go_wp2
 go_end0
 exact⟨rfl,HN.out⟩
theorem mode170_calls (w:World):Calls Tryz.prog 170 #[.agg #[]] w fun e w'=>e= .returned (.int .i64 0)∧Below w.heap.size w w':=by
 go_enter Tryz.func170,Tryz.ntmps170
 go_wp2
 go_ret
 exact⟨rfl,(Below.refl _ _).alloc (Nat.le_refl _) _⟩
theorem load158 (w:World) (b:Nat):(Instr.loadAt 158 (.pointer (some ⟨b,0,none⟩))).run Tryz.prog w= .ok (.agg #[]) w:=
 run_loadAt_mid w b 0 158 [] _ (fun j v h=>by cases h) Tryz.underlying158 rfl (by kernel_rfl)
theorem loadVar158 (w:World) (b:Nat):(loadVar 158 ⟨b,0,none⟩).run Tryz.prog w= .ok (.agg #[]) w:=
 run_loadVar_mid w b 0 158 [] _ (fun j v h=>by cases h) Tryz.underlying158 rfl (by kernel_rfl)
theorem size158 (w:World):(sizeOf 158).run Tryz.prog w= .ok 0 w:=by kernel_rfl
theorem agg158 (w:World):(isAgg 158).run Tryz.prog w= .ok true w:=by
 unfold isAgg;rw[Sem.run_bind,run_underlying Tryz.underlying158 w];rfl
def asciiOut (r:Nat) (cw:List Nat) (p:Int) (ne:Int) (ch:Nat):List Nat×Int×Int:=
 if r=0 then(cw++[ch+1],p+1,ne)else if r=1 then(cw++[230],p,1)else(cw++[239],p,2)
set_option maxRecDepth 100000 in
set_option maxHeartbeats 8000000 in
theorem asciiOne_calls {p r:Nat} (h:Ctx w0 w base c mb mcap shape msg v cw p ne sym skip) (hm:msg.length≤1000) (hc:cw.length≤4000) (hp:p<msg.length) (hd:digRun (msg.drop p)<2)
 (hs:∀i,i<msg.length→clsOf (msg.getD i 0)<4) (hr:r=lkTest 0 ((msg.drop p).map clsOf)) (hr3:r≤2):
 Calls Tryz.prog 169 #[.agg #[],.pointer (some ⟨c,0,none⟩)] w fun e w'=>e= .returned .nilIface∧∃v',Ctx w0 w' base c mb mcap shape msg v' (asciiOut r cw p ne (msg.getD p 0)).1 (asciiOut r cw p ne (msg.getD p 0)).2.1 (asciiOut r cw p ne (msg.getD p 0)).2.2 sym skip:=by
 have H:=Lib.hid h
 have CU:Hid (∀w',Ctx w0 w' base c mb mcap shape msg v cw p ne sym skip→Calls Tryz.prog 174 #[.pointer (some ⟨c,0,none⟩)] w' fun e w''=>e= .returned (.int .u8 ((msg.getD p 0:Nat):Int))∧∃m,w''=w'.drewN m):=fun w' h'=>cur_calls h' (by omega) hp
 have hsp:=cls_cases (hs p hp)
 have hext:=fun w=>ext_calls (n:=msg.getD p 0) rfl (hs p hp) w
 generalize msg.getD p 0=ch at*
 have hch2:ch≤122∧32≤ch:=by omega
 clear hsp
 have hd':¬(2:Int)≤((digRun (msg.drop p):Nat):Int):=by omega
 have LK:=Lib.hid (fun(w:World) (hb:Bytes w mb msg)=>look_calls (mcap:=mcap) (mode:=0) hb hp hm hs (by decide))
 rw[←hr]at LK
 clear h hs hr
 go_enter Tryz.func169,Tryz.ntmps169
 go_wp2
 have HA:=Lib.hid (H.out.alloc (.cells #[] 158))
 generalize w.alloc (.cells #[] 158)=wa at*
 have k5:=HA.out.c5
 have dg:=fun n=>digs_calls (mcap:=mcap) (HA.out.byt.drewN n) p (by omega) (by omega)
 have gm:=fun n=>getMsg_calls (HA.out.drewN n)
 generalize digRun (msg.drop p)=dr at*
 go_quiet (first|(go_at_call 172;exact Calls.quiet_of_same (gm _))|(go_at_call 171;exact Calls.quiet_of_same (dg _)))
 go_upto_region 7 with(first|(go_at_call 174;refine(CU.out _ (HA.out.drewN _)).mono ?_;rintro e w2 ⟨rfl,nm,rfl⟩))
 have HB:=Lib.hid (HA.out.drewN (nq+nm))
 clear dg gm k5 HA
 generalize wa.drewN (nq+nm)=wb at*
 go_cut [9] (fun q wx=>q= .int .i64 r∧Hid (Ctx w0 wx base c mb mcap shape msg v cw p ne sym skip))
 case first=>
  have hld:=load158
  have hld2:=loadVar158
  have hld3:=size158
  have hld4:=agg158
  have HBd:Hid (Ctx w0 wb.drew base c mb mcap shape msg v cw p ne sym skip):=HB.out.drewN 1
  have k5:wb.drew.cell? ⟨c,5,none⟩=some (.int .i64 p):=HBd.out.c5
  go_region_with (first
   |(go_at_call 172;(first|(refine(getMsg_calls HBx.out).mono ?_;rintro e w2 ⟨rfl,rfl⟩)|(refine(getMsg_calls (w:=wb.drew) HBd.out).mono ?_;rintro e w2 ⟨rfl,rfl⟩)))
   |(go_at_call 170;refine(mode170_calls wb.drew).mono ?_;rintro e w2 ⟨rfl,hw2⟩;have HBx:=Lib.hid (HBd.out.keep hw2);have k5x:=HBx.out.c5;clear hw2)
   |(go_at_call 175;refine(LK.out _ HBx.out.byt).mono ?_;rintro e w3 ⟨rfl,hbl⟩;have HC:=Lib.hid (HBx.out.keep hbl);clear hbl))
  all_goals
   go_wp2
   go_meet
   case rel=>exact⟨rfl,HC⟩
 case rest=>
  obtain⟨rfl,HC⟩:=hcut
  have hld:=load158
  have hld2:=loadVar158
  have hld3:=size158
  have hld4:=agg158
  clear LK
  have r3:r=0∨r=1∨r=2:=by omega
  have hpp:(p:Int)≤1000:=by omega
  clear hr3 hd CU
  rcases r3 with rfl|rfl|rfl
  ·go_wp2_with (first
    |(go_at_call 170;refine(mode170_calls _).mono ?_;rintro e w2 ⟨rfl,hw2⟩;have HD:=Lib.hid (HC.out.keep hw2);clear hw2)
    |(go_at_call 177;refine(hext _).mono ?_;rintro e w4 ⟨rfl,rfl⟩)
    |(go_at_call 87;refine(putC_calls HD.out (ch+1) _ (by omega) (by omega)).mono ?_;rintro e w3 ⟨rfl,v3,hc3⟩;have l5:=hc3.c5;have f5:=frozen_blk hc3.blk 5;have S:=Lib.hid (hc3.setPos ((p:Int)+1));clear hc3))
   go_ret
   exact⟨rfl,_,S.out⟩
  ·go_wp2_with (first
    |(go_at_call 170;refine(mode170_calls _).mono ?_;rintro e w2 ⟨rfl,hw2⟩;have HD:=Lib.hid (HC.out.keep hw2);clear hw2)
    |(go_at_call 87;refine(putC_calls HD.out 230 _ rfl (by omega)).mono ?_;rintro e w3 ⟨rfl,v3,hc3⟩;have HE:=Lib.hid hc3;clear hc3)
    |(go_at_call 176;refine(signal_calls HE.out 1).mono ?_;rintro e w4 ⟨rfl,hc4⟩;have S:=Lib.hid hc4;clear hc4))
   go_ret
   exact⟨rfl,_,S.out⟩
  ·go_wp2_with (first
    |(go_at_call 170;refine(mode170_calls _).mono ?_;rintro e w2 ⟨rfl,hw2⟩;have HD:=Lib.hid (HC.out.keep hw2);clear hw2)
    |(go_at_call 87;refine(putC_calls HD.out 239 _ rfl (by omega)).mono ?_;rintro e w3 ⟨rfl,v3,hc3⟩;have HE:=Lib.hid hc3;clear hc3)
    |(go_at_call 176;refine(signal_calls HE.out 2).mono ?_;rintro e w4 ⟨rfl,hc4⟩;have S:=Lib.hid hc4;clear hc4))
   go_ret
   exact⟨rfl,_,S.out⟩
end
end
section
open Go.RowKit
theorem app49L {ops:Array Oper} {rest:List Oper} {o:Oper} {a:Act} {Q:Exit→Act→World→Prop} {w:World} (hgd:o.guard=none) (s x:Operand)
 (ho:o.op= .call {callee:= .builtin .append,args:= #[s,x],argTypes:= #[49,49]})
 (base:Nat) (v:Value) (xs:List Nat) (hs:a.eval s=v) (hown:Own w base .u8 5 v xs)
 (b m c:Nat) (ys:List Nat) (hx:a.eval x= .slice (some ⟨b,0,none⟩) m c) (hm:m=ys.length) (hm0:0<m) (hys:Bytes w b ys)
 (hlen:xs.length+ys.length≤100000) (hbase:base≤w.heap.size)
 (h:∀g cap w',Own w' base .u8 5 (.slice (some ⟨g,0,none⟩) (xs.length+ys.length) cap) (xs++ys)→w.grownBy w' v.ownBlock→(v.ownBlock=some g∨g=w.heap.size)→wpList Tryz.prog ops Q rest (a.put o.dst (.slice (some ⟨g,0,none⟩) (xs.length+ys.length) cap)) w'):
 wpList Tryz.prog ops Q (o::rest) a w:=by
 obtain⟨i,hi,hz,hsz,hb⟩:=info_parts Tryz.inf5
 subst hm
 refine wpList_plain hgd fun K hK=>wp_append_lies w s x 49 ho base 5 i _ 1 1 Tryz.underlying49 hi hz hsz hb rfl (by omega) v xs.length _ hs hown ⟨b,0,none⟩ ys.length c ((nl ys).map (Value.int .u8)) hx (by simp) ?_ ?_ hm0 (by simp only[maxLen];omega) (by omega) hbase _ rfl ?_
 ·intro j u hj
  have hjl:j<ys.length:=by
   have:=(List.getElem?_eq_some_iff.1 hj).1;simpa using this
  have e:(⟨b,0,none⟩:Addr).add j=⟨b,j,none⟩:=addr_add b j
  rw[e,hys.2 j hjl,←hj,←getD_nl]
  simp[hjl,nl]
 ·intro u hu
  obtain⟨y,_,rfl⟩:=List.mem_map.1 hu
  rfl
 ·intro g cap w' h1 h2 h3 _
  refine hK _ _ (h g cap w' ?_ h2 h3)
  unfold Own
  rw[List.length_append]
  simpa[nl]using h1
theorem app49G {ops:Array Oper} {rest:List Oper} {o:Oper} {a:Act} {Q:Exit→Act→World→Prop} {w:World} (hgd:o.guard=none) (s x:Operand)
 (ho:o.op= .call {callee:= .builtin .append,args:= #[s,x],argTypes:= #[49,49]})
 (base:Nat) (v:Value) (xs:List Nat) (hs:a.eval s=v) (hown:Own w base .u8 5 v xs)
 (b m c:Nat) (ys:List Nat) (hx:a.eval x= .slice (some ⟨b,0,none⟩) m c) (hm:m=ys.length) (hm0:0<m) (hys:Bytes w b ys)
 (hlen:xs.length+ys.length≤100000) (hbase:base≤w.heap.size)
 (h:∀v' w',Own w' base .u8 5 v' (xs++ys)→w.grownBy w' v.ownBlock→(∀k,v'.ownBlock=some k→v.ownBlock=some k∨w.heap.size≤k)→wpList Tryz.prog ops Q rest (a.put o.dst v') w'):
 wpList Tryz.prog ops Q (o::rest) a w:=
 app49L hgd s x ho base v xs hs hown b m c ys hx hm hm0 hys hlen hbase fun g cap w' h1 h2 h3=>h _ w' h1 h2 fun k e=>by
  simp only[Value.ownBlock,Option.some.injEq]at e
  subst e
  rcases h3 with h3|h3
  ·exact Or.inl h3
  ·exact Or.inr (by omega)
def Gr (w w':World) (v v':Value):Prop:=(∀k,k<w.heap.size→v.ownBlock≠some k→w'.heap[k]? =w.heap[k]?)∧w.heap.size≤w'.heap.size∧(∀k,v'.ownBlock=some k→v.ownBlock=some k∨w.heap.size≤k)
theorem Gr.app {w w':World} {o:Obj} {v v':Value} (hg:(w.alloc o).grownBy w' v.ownBlock) (hf:∀k,v'.ownBlock=some k→v.ownBlock=some k∨(w.alloc o).heap.size≤k):Gr w w' v v':=by
 refine⟨fun k a d=>?_,?_,fun k e=>?_⟩
 ·rw[hg.block k (by simp;omega) (fun e=>d e.symm)];exact Below.heap_alloc w o k a
 ·have:=hg.size;simp at this;omega
 ·rcases hf k e with h|h
  ·exact Or.inl h
  ·simp at h;exact Or.inr (by omega)
theorem Gr.trans {w w' w'':World} {v v' v'':Value} (h1:Gr w w' v v') (h2:Gr w' w'' v' v''):Gr w w'' v v'':=by
 refine⟨fun k a d=>?_,Nat.le_trans h1.2.1 h2.2.1,fun k e=>?_⟩
 ·rw[h2.1 k (Nat.lt_of_lt_of_le a h1.2.1) (fun e=>?_),h1.1 k a d]
  rcases h1.2.2 k e with h|h
  ·exact d h
  ·omega
 ·rcases h2.2.2 k e with h|h
  ·exact h1.2.2 k h
  ·exact Or.inr (Nat.le_trans h1.2.1 h)
end
end Go.Proofs.YtcnallabiffemaaGreatDoor
