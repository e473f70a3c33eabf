/- The C40 encoder: a whole segment. -/
import Derived.Test.YtcnallabiffemaaGreatDoorZt9
import Derived.BigQuiet
import Derived.BigRegion
import Derived.Deep.CutRange
import Derived.Deep.DeepCutAuto
import Derived.Deep.RegionWith
import Derived.StillTailTactics
set_option linter.unusedVariables false
set_option linter.unusedSimpArgs false
namespace Go.Proofs.YtcnallabiffemaaGreatDoor
open Go.RowKit
section
variable {w0 w:World} {base c mb mcap shape:Nat} {msg:List Nat} {v:Value} {cw:List Nat} {pos ne:Int} {sym:Option (Nat×Nat)} {skip:Int} {fn B p g cap bb i:Nat}
theorem SegI.start (h:Ctx w0 w base c mb mcap shape msg v cw (p:Int) ne sym 0) (K:SegK fn msg shape B p cw) (hs:SymOk shape cw.length sym) (ht:Tot (msg.map clsOf) (kb fn) p cw.length):
 SegI fn w0 (w.alloc (.cells (irow .u8 (zs 0)) 5)) base c mb mcap shape msg v cw ne p w.heap.size p (.slice (some ⟨w.heap.size,0,none⟩) 0 0) sym:=by
 have e:flatV fn (segC msg p p)=[]:=by rw[segC_self];rfl
 refine⟨h.alloc _,?_,?_,?_,by simp,Nat.le_refl _,by have:=K.hp;omega⟩
 ·rw[e];exact hs
 ·rw[e];exact Own.of_room (c:=0) (new_last rfl _) (by simp[irow,zs]) (Nat.le_refl _) (by simp only[maxLen];omega)
 ·rw[e];exact ht
theorem Ctx.segB (h:Ctx w0 w base c mb mcap shape msg v cw pos ne sym skip):SegB base c w.heap.size v:=⟨h.b3,lt_of_some h.blk,fun k e=>(h.own.lt k e).2⟩
theorem SegI.apart {q:Nat} {wr:World} {u:Value} (h:SegI fn w0 wr base c mb mcap shape msg v cw ne p bb q u sym) (hB:SegB base c bb v) {wx:World} {ps:Int} {nx:Int} (hc:Ctx w0 wx base c mb mcap shape msg v cw ps nx sym 0) (ho:Own wx bb .u8 5 u (flatV fn (segC msg p q))):
 ∀k,u.ownBlock=some k→k≠c∧v.ownBlock≠some k∧k≠mb∧∀i b,sym=some (i,b)→b≠k:=by
 intro k hk
 have h1:=(ho.lt k hk).1
 have h2:=hB.b2
 have h3:=hB.b1
 have h4:=hc.b2
 refine⟨by omega,fun e=>by have:=hB.b3 k e;omega,by omega,fun i b e e2=>?_⟩
 obtain⟨cs,h5⟩:=ho.tag k hk
 rw[←e2,hc.syms i b e]at h5
 injection h5 with h5;injection h5 with _ h5
 exact absurd h5 (by decide)
theorem Buf.mk' {wx:World} {ps nx:Int} {sy:Option (Nat×Nat)} {xs:List Nat} (hc:Ctx w0 wx base c mb mcap shape msg v cw ps nx sy 0) (hB:SegB base c bb v) (ho:Own wx bb .u8 5 (.slice (some ⟨g,0,none⟩) xs.length cap) xs) (hz:bb≤wx.heap.size):Buf wx c v base bb g cap xs:=by
 have h1:=(ho.lt g rfl).1
 have h2:=hB.b2
 exact⟨ho,hB.b1,hz,by omega,fun e=>by have:=hB.b3 g e;omega⟩
theorem eb_at {eb et:Nat} {cs:Array Value} (h:Ctx w0 w base c mb mcap shape msg v cw pos ne sym skip) (he:w0.heap[eb]? =some (.cells cs et)):w.heap[eb]? =some (.cells cs et):=(h.below.block eb (lt_of_some he)).trans he
theorem eb_lt {eb et:Nat} {cs:Array Value} (h:Ctx w0 w base c mb mcap shape msg v cw pos ne sym skip) (he:w0.heap[eb]? =some (.cells cs et)):eb<base∧eb≠c:=by
 have h1:=lt_of_some he
 have h2:=h.b0
 have h3:=h.b1
 omega
theorem SegI.next' {q q1 L j b:Nat} {xs:List Nat} {wr w':World} {u:Value} {sym:Option (Nat×Nat)} (hI:SegI fn w0 wr base c mb mcap shape msg v cw ne p bb q u sym) (K:SegK fn msg shape B p cw) (hq1:q+1=q1) (hxs:xs=flatV fn (segC msg p q1)) (hL:L=xs.length)
 (hc:Ctx w0 w' base c mb mcap shape msg v cw (q1:Int) ne (some (j,b)) 0) (hj:lookSym ((cw.length+2*(L/3):Nat):Int) shape=some j) (ho:Own w' bb .u8 5 (.slice (some ⟨g,0,none⟩) L cap) xs) (hz:bb≤w'.heap.size) (hq:q1<msg.length)
 (h:L%3≠0∨lkTest (mo fn) ((msg.drop q1).map clsOf)=mo fn):SegI fn w0 w' base c mb mcap shape msg v cw ne p bb q1 (.slice (some ⟨g,0,none⟩) L cap) (some (j,b)):=by
 subst hq1 hL hxs
 exact hI.next K hc hj ho hz hq h
theorem signal2_calls (h:Ctx w0 w base c mb mcap shape msg v cw pos ne sym skip) (n:Int):
 Calls Tryz.prog 176 #[.pointer (some ⟨c,0,none⟩),.int .i64 n] w fun e w'=>e= .returned (.tuple #[])∧Ctx w0 w' base c mb mcap shape msg v cw pos n sym skip∧w'=w.setCell ⟨c,6,none⟩ (.int .i64 n):=by
 have k6:=h.c6
 have f6:=frozen_blk h.blk 6
 have HN:=Lib.hid (h.setNe n)
 clear h
 go_enter Tryz.func176,Tryz.ntmps176
 go_wp2
 go_end0
 exact⟨rfl,HN.out,rfl⟩
theorem Buf.drewN {wx:World} {xs:List Nat} (h:Buf wx c v base bb g cap xs) (n:Nat):Buf (wx.drewN n) c v base bb g cap xs:=⟨h.own.drewN n,h.hbb,h.hbs,h.hg,h.hv⟩
theorem Buf.set {wx:World} {xs:List Nat} {k:Nat} {u:Value} (h:Buf wx c v base bb g cap xs):Buf (wx.setCell ⟨c,k,none⟩ u) c v base bb g cap xs:=
 ⟨h.own.set_ne (by simp only[Value.ownBlock,ne_eq,Option.some.injEq];exact h.hg) u,h.hbb,by have:=h.hbs;simpa[World.setCell]using this,h.hg,h.hv⟩
theorem Buf.keep {wx wy:World} {xs:List Nat} (h:Buf wx c v base bb g cap xs) (hb:Below wx.heap.size wx wy):Buf wy c v base bb g cap xs:=
 ⟨h.own.below hb (fun k e=>(h.own.lt k e).2),h.hbb,Nat.le_trans h.hbs hb.size,h.hg,h.hv⟩
theorem Buf.alloc {wx:World} {xs:List Nat} (h:Buf wx c v base bb g cap xs) (o:Obj):Buf (wx.alloc o) c v base bb g cap xs:=h.keep ((Below.refl _ _).alloc (Nat.le_refl _) o)
def BackO (w0:World) (base c mb mcap shape:Nat) (msg:List Nat) (v:Value) (cw:List Nat) (q ne:Int) (bb bb2 g n cap:Nat) (xs:List Nat) (s m:Nat) (e:Ending) (w':World):Prop:=
 ∃rv rs,e= .returned (.tuple #[.int .i64 s,.slice (some ⟨g,0,none⟩) n cap,rv])∧Ctx w0 w' base c mb mcap shape msg v cw q ne none 0∧Buf w' c v base bb g cap xs∧xs.length=n∧Own w' bb2 .u8 5 rv rs∧rs.length≤m∧bb2≤w'.heap.size
def Above (base c eb g:Nat) (v:Value) (sym:Option (Nat×Nat)) (bb2:Nat):Prop:=base≤bb2∧c<bb2∧eb<bb2∧g<bb2∧(∀k,v.ownBlock=some k→k<bb2)∧∀i b,sym=some (i,b)→b<bb2
theorem Above.noSym {eb bb2:Nat} (h:Above base c eb g v sym bb2):Above base c eb g v none bb2:=⟨h.1,h.2.1,h.2.2.1,h.2.2.2.1,h.2.2.2.2.1,fun i b e=>by cases e⟩
theorem back2_calls {eb et q s n L bb2 k:Nat} {x:Int} {xs rs:List Nat} {rv:Value} (K:SegK fn msg shape B p cw) (h:Ctx w0 w base c mb mcap shape msg v cw x ne sym 0) (hx:x=((q+1:Nat):Int)) (he:w0.heap[eb]? =some (.cells #[.int .i64 ((mo fn:Nat):Int),.func (.func fn) #[] #[]] et))
 (hb:Buf w c v base bb g cap xs) (hL:L=xs.length) (hr:Own w bb2 .u8 5 rv rs) (hrl:rs.length+2≤k) (hk:k≤100) (hb2:bb2≤w.heap.size) (hA:Above base c eb g v sym bb2) (hq:q<msg.length) (hs:s≤L) (hx2:L≤4000) (hn:n=L-s):
 Calls Tryz.prog 205 #[.pointer (some ⟨eb,0,none⟩),.pointer (some ⟨c,0,none⟩),.slice (some ⟨g,0,none⟩) L cap,rv,.int .i64 s] w
  (BackO w0 base c mb mcap shape msg v cw (q:Int) ne bb bb2 g n cap (xs.take n) (valsOf fn (msg.getD q 0)).length k):=by
 subst hL hn
 have hl:=K.hl
 refine(back_calls K.hf h (p:=q) (by omega) hq (by omega) (eb_at h he) (eb_lt h he).2 hb.own hb.hg hr (by omega) hb2 hA hs (by omega) (K.h4 q hq)).mono ?_
 rintro e w' ⟨rv',rfl,h1,h2,h3,h4,h5⟩
 have hz:=hb.hbs
 have hlen:(xs.take (xs.length-s)).length=xs.length-s:=by rw[List.length_take];omega
 have hv:=vals_shape K.hf (K.h4 q hq)
 refine⟨rv',_,rfl,h1,⟨by rw[hlen];exact h2,hb.hbb,by omega,hb.hg,hb.hv⟩,hlen,h3,?_,by omega⟩
 rw[List.length_append]
 rcases hv with⟨y,e1,-⟩|⟨y,e1,-⟩<;>rw[e1]<;>simp<;>omega
theorem back_take {q q1 L n s:Nat} {xs:List Nat} (hpq:p≤q) (hq:q<msg.length) (hq1:q+1=q1) (hx:xs=flatV fn (segC msg p q1)) (hL:L=xs.length) (hs:s=(valsOf fn (msg.getD q 0)).length) (hn:n=L-s):xs.take n=flatV fn (segC msg p q):=by
 subst hq1 hL hn hs hx
 rw[flatV_snoc hpq hq,List.length_append,Nat.add_sub_cancel]
 exact List.take_left
set_option maxRecDepth 100000 in
set_option maxHeartbeats 8000000 in
theorem seg_calls {eb et:Nat} (K:SegK fn msg shape B p cw) (h:Ctx w0 w base c mb mcap shape msg v cw (p:Int) ne sym 0) (hs:SymOk shape cw.length sym) (ht:Tot (msg.map clsOf) (kb fn) p cw.length)
 (he:w0.heap[eb]? =some (.cells #[.int .i64 ((mo fn:Nat):Int),.func (.func fn) #[] #[]] et)):
 Calls Tryz.prog 203 #[.pointer (some ⟨eb,0,none⟩),.pointer (some ⟨c,0,none⟩)] w (SegOut w0 base c mb mcap shape msg B p):=by
 have hmk:=fun w=>make49 0 0 (by omega) (by omega) (by omega) w
 simp only[Int.toNat_zero]at hmk
 have HI0:=Lib.hid (SegI.start h K hs ht)
 have HB:=Lib.hid h.segB
 have KK:=Lib.hid K
 have HE:=Lib.hid he
 have hm:=K.hl
 have hbz:base≤w.heap.size:=h.b3
 obtain⟨bb,hbb⟩:∃bb,bb=w.heap.size:=⟨_,rfl⟩
 rw[←hbb]at HI0 HB
 have HBB:=Lib.hid hbb
 have hf:=K.hf
 clear h hs ht he K hbb hbz
 go_enter Tryz.func203,Tryz.ntmps203
 go_wp2
 go_loopw [5] (fun u wr=>∃q sym,Hid (SegI fn w0 wr base c mb mcap shape msg v cw ne p bb q u sym)) (fun _ wr=>msg.length-posAt wr c)
 case atStart=>
  rw[←HBB.out]
  exact⟨p,sym,HI0⟩
 case round=>
  clear HI0 HBB
  obtain⟨q,sym,HI⟩:=hrel
  have hpq:=HI.out.hpq
  have hq:=HI.out.hq
  have HX:=Lib.hid HI.out.ctx
  have HPA:=Lib.hid HX.out.posAt
  have hdt:decide ((q:Int)<(msg.length:Int)-0)=true:=decide_eq_true (by omega)
  have MO:=fun w' (h':Ctx w0 w' base c mb mcap shape msg v cw (q:Int) ne sym 0)=>more_calls h' (by omega) (Int.le_refl 0) (by decide)
  rw[hdt]at MO
  have MO:=Lib.hid MO
  obtain⟨ch,hch⟩:∃ch,ch=msg.getD q 0:=⟨_,rfl⟩
  have CUR:=fun w' (h':Ctx w0 w' base c mb mcap shape msg v cw (q:Int) ne sym 0)=>cur_calls h' (by omega) hq
  rw[←hch]at CUR
  have CUR:=Lib.hid CUR
  obtain⟨s1,hs1⟩:∃s,s=(valsOf fn (msg.getD q 0)).length:=⟨_,rfl⟩
  obtain⟨xs,hxs⟩:∃xs,xs=flatV fn (segC msg p (q+1)):=⟨_,rfl⟩
  obtain⟨L,hL⟩:∃L,L=xs.length:=⟨_,rfl⟩
  have CH:∀w',Own w' bb .u8 5 u5 (flatV fn (segC msg p q))→bb≤w'.heap.size→Calls Tryz.prog fn #[.int .u8 ((msg.getD q 0:Nat):Int),u5] w' (CharOut bb w' u5 s1 L xs):=
   fun w' ho hz=>char2_calls hf KK.out.h4 hpq hq hm ho hz hs1 hxs hL
  rw[←hch]at CH
  have CH:=Lib.hid CH
  have HS1:=Lib.hid hs1
  have HXS:=Lib.hid hxs
  have HL:=Lib.hid hL
  have HCH:=Lib.hid hch
  have hcl:cw.length≤1304:=by have:=KK.out.hcw;have:=KK.out.hB;omega
  have hc0:=KK.out.h0
  have hLn:L≤2000∧0<L:=by have:=flat_pos (p:=p) KK.out.hf KK.out.h4 (q+1) (by omega) (by omega);rw[hL,hxs];omega
  have NX:=seg_next KK.out hpq hq HI.out.tot
  rw[←hxs,←hL]at NX
  obtain⟨i,hi⟩:=KK.out.hlook _ NX.1
  have LK:=Lib.hid hi
  have NX:=Lib.hid NX
  have hav:=look_le hi
  have HJ:=Lib.hid ((HI.out.sok.mono (show _≤cw.length+2*(L/3)from by rw[hL,hxs,flatV_snoc hpq hq,List.length_append];omega)).hj (Nat.le_refl _) hi)
  clear hs1 hxs hL hch hi hdt
  go_upto_region 4 with(first
   |(go_at_call 89;refine(MO.out _ HX.out).mono ?_;rintro e w6 ⟨rfl,n6,rfl⟩)
   |(go_at_call 174;refine(CUR.out _ (HX.out.drewN _)).mono ?_;rintro e w2 ⟨rfl,nm,rfl⟩))
  have HA:=Lib.hid (HX.out.drewN (n6+nm))
  have HOA:=Lib.hid (HI.out.own.drewN (n6+nm))
  have hza:bb≤(wr.drewN (n6+nm)).heap.size:=HI.out.hbs
  generalize wr.drewN (n6+nm)=wa at*
  have k5:=HA.out.c5
  have f5:=frozen_blk HA.out.blk 5
  have hqb:0≤(q:Int)∧(q:Int)≤1000:=by omega
  go_upto_region 5 with fail
  have HC:Hid (Ctx w0 (wa.setCell ⟨c,5,none⟩ (.int .i64 ((q:Int)+1))) base c mb mcap shape msg v cw ((q+1:Nat):Int) ne sym 0):=by
   rw[show ((q+1:Nat):Int)=(q:Int)+1 by omega];exact Lib.hid (HA.out.setPos _)
  have hnc:u5.ownBlock≠some c:=fun e=>((HI.out.apart HB.out HA.out HOA.out) c e).1 rfl
  have HOC:=Lib.hid (HOA.out.set_ne (a:=⟨c,5,none⟩) hnc (.int .i64 ((q:Int)+1)))
  have hzc:bb≤(wa.setCell ⟨c,5,none⟩ (.int .i64 ((q:Int)+1))).heap.size:=by simpa[World.setCell]using hza
  clear k5 f5 hnc hza
  generalize wa.setCell ⟨c,5,none⟩ (.int .i64 ((q:Int)+1))=wc at*
  have e1:wc.cell? ⟨eb,1,none⟩=some (.func (.func fn) #[] #[]):=by rw[cell_blk (eb_at HC.out HE.out)];rfl
  have HMK:=Lib.hid hmk
  clear hmk
  go_upto_region 6 with fail
  go_cut [7,5] (fun s u wx=>∃g cap,s= .int .i64 ((s1:Nat):Int)∧u= .slice (some ⟨g,0,none⟩) L cap∧Hid (Own wx bb .u8 5 (.slice (some ⟨g,0,none⟩) L cap) xs)∧Hid (Ctx w0 wx base c mb mcap shape msg v cw ((q+1:Nat):Int) ne sym 0)∧bb≤wx.heap.size)
  case first=>
   rcases hf with rfl|rfl
   all_goals
    go_wp2_with (first
     |(go_at_call 124;refine(CH.out _ HOC.out hzc).mono ?_;rintro e w3 ⟨g,cap,rfl,ho3,hb3,hg3⟩;have HO3:=Lib.hid ho3;have HB3:=Lib.hid hb3;have HG3:=Lib.hid hg3;clear ho3 hb3 hg3)
     |(go_at_call 125;refine(CH.out _ HOC.out hzc).mono ?_;rintro e w3 ⟨g,cap,rfl,ho3,hb3,hg3⟩;have HO3:=Lib.hid ho3;have HB3:=Lib.hid hb3;have HG3:=Lib.hid hg3;clear ho3 hb3 hg3))
    go_meet
    case rel=>exact⟨g,cap,rfl,rfl,HO3,HC.out.gr HB3.out HG3.out HB.out.b1 (HI.out.apart HB.out HC.out HOC.out),Nat.le_trans hzc HG3.out.2.1⟩
  case rest=>
   obtain⟨g,cap,rfl,rfl,HO3,HC3,hz3⟩:=hcut
   clear HC HOC hzc e1 CH CUR MO HX HA HOA hf
   go_upto_region 13 with(first
    |(go_at_call 92;refine(count_calls HC3.out hc0).mono ?_;rintro e w4 ⟨rfl,rfl⟩)
    |(go_at_call 130;refine(updI_calls (len:=cw.length+2*(L/3)) (by omega) HC3.out KK.out.hs LK.out HJ.out).mono ?_;rintro e w5 ⟨rfl,⟨sb,hc5⟩,hf5⟩;have HC5:=Lib.hid hc5;have HF5:=Lib.hid hf5;have k7:=hc5.c7;have sd:=si_data (hc5.syms i sb rfl);clear hc5 hf5)
    |(go_at_call 95;refine(getSym_calls k7).mono ?_;rintro e w6 ⟨rfl,rfl⟩)
    |(go_at_call 96;refine(getCap_calls sd).mono ?_;rintro e w7 ⟨rfl,rfl⟩))
   generalize hq1:q+1=q1 at*
   have HQ1:=Lib.hid hq1
   have hqq:q<q1∧q1≤q+1:=by omega
   have hg0:=(HO3.out.lt g rfl).1
   have hgc:g≠c:=by have:=HB.out.b2;omega
   have hgv:v.ownBlock≠some g:=fun e=>by have:=HB.out.b3 g e;omega
   have HO5:=Lib.hid (HF5.out.own HO3.out hgc hgv)
   have hz7:bb≤w7.heap.size:=Nat.le_trans hz3 HF5.out.2.1
   have BUF:Hid (Buf w7 c v base bb g cap xs):=⟨by have:=HO5.out;rw[HL.out]at this;exact this,HB.out.b1,hz7,hgc,hgv⟩
   have SOK:Hid (SymOk shape (cw.length+2*(xs.length/3)) (some (i,sb))):=SymOk.some (by rw[←HL.out];exact LK.out)
   have HAV:Hid (dataOf i-((cw.length+2*(L/3):Nat):Int)=dataOf i-((cw.length:Int)+(L:Int)/3*2)):=Lib.hid (by omega)
   have havb:0≤dataOf i-((cw.length:Int)+(L:Int)/3*2)∧dataOf i-((cw.length:Int)+(L:Int)/3*2)≤2000:=by omega
   generalize dataOf i-((cw.length:Int)+(L:Int)/3*2)=av at*
   clear hq1 k7 sd HJ HF5 HO3 HC3 hz3 hg0 hav
   have MO2:=more_calls HC5.out (by omega) (Int.le_refl 0) (by decide)
   by_cases hlast:q1=msg.length
   ·have hdt2:decide ((q1:Int)<(msg.length:Int)-0)=false:=decide_eq_false (by omega)
    rw[hdt2]at MO2
    have MO2:=Lib.hid MO2
    have hmk:=HMK.out
    have HLA:=Lib.hid hlast
    have SL:=seg_last KK.out hpq (by rw[HQ1.out];exact hlast) HI.out.tot
    rw[HQ1.out,←HXS.out,←HL.out]at SL
    have hqn:q1≤msg.length∧msg.length≤q1:=by omega
    clear hlast hdt2
    go_upto_region 15 with(go_at_call 89;refine MO2.out.mono ?_;rintro e w8 ⟨rfl,n8,rfl⟩)
    have HAB:Hid (Above base c eb g v (some (i,sb)) w7.heap.size):=⟨HC5.out.b3,lt_of_some HC5.out.blk,Nat.lt_of_lt_of_le (eb_lt HC5.out HE.out).1 HC5.out.b3,(HO5.out.lt g rfl).2,fun k e=>(HC5.out.own.lt k e).2,fun i' b' e=>lt_of_some (HC5.out.syms i' b' e)⟩
    have HC8:=Lib.hid ((HC5.out.drewN n8).alloc (.cells (irow .u8 (zs 0)) 5))
    have BU8:=Lib.hid ((BUF.out.drewN n8).alloc (.cells (irow .u8 (zs 0)) 5))
    have HR8:Hid (Own ((w7.drewN n8).alloc (.cells (irow .u8 (zs 0)) 5)) w7.heap.size .u8 5 (.slice (some ⟨w7.heap.size,0,none⟩) 0 0) []):=Own.of_room (c:=0) (new_last rfl _) (by simp[irow,zs]) (Nat.le_refl _) (by simp only[maxLen];omega)
    have hz8:w7.heap.size≤((w7.drewN n8).alloc (.cells (irow .u8 (zs 0)) 5)).heap.size:=by simp
    clear MO2 hmk HC5 BUF HO5 hz7
    generalize (w7.drewN n8).alloc (.cells (irow .u8 (zs 0)) 5)=w8 at*
    generalize w7.heap.size=bb2 at*
    have h3:L%3=0∨L%3=1∨L%3=2:=by omega
    have hs1:s1=1∨s1=2:=by rcases vals_shape KK.out.hf (KK.out.h4 q hq)with⟨y,e,-⟩|⟨y,e,-⟩<;>(rw[HS1.out,e];simp)
    rcases h3 with h3|h3|h3
    ·have q3:(L:Int)%3=0:=by omega
     have RDY:Calls Tryz.prog 206 #[.pointer (some ⟨c,0,none⟩),.slice (some ⟨g,0,none⟩) L cap] w8 (SegOut w0 base c mb mcap shape msg B p):=by
      have hc:=HC8.out
      have h3x:=h3
      have sl:=SL
      have hx:=HXS.out
      rw[HLA.out]at hc hx
      rw[HL.out]at h3x sl ⊢
      exact ready0n KK.out hc hx SOK.out BU8.out h3x (by omega)
     have RDY:=Lib.hid RDY
     go_wp2
     refine wp_loop_rounds 1 ?_
     rw[rounds_succ]
     go_wp2_with (go_at_call 206;refine RDY.out.mono ?_;rintro e w12 ⟨rfl,hso⟩;have HSO:=Lib.hid hso;clear hso)
     go_ret
     exact⟨rfl,HSO.out⟩
    ·have q3:(L:Int)%3=1:=by omega
     by_cases ha:av=1
     ·have ha1:(av==1)=true:=by rw[beq_iff_eq];exact ha
      have hs3:¬(s1:Int)>3:=by omega
      have RDY:Calls Tryz.prog 206 #[.pointer (some ⟨c,0,none⟩),.slice (some ⟨g,0,none⟩) L cap] w8 (SegOut w0 base c mb mcap shape msg B p):=by
       have hc:=HC8.out
       have h3x:=h3
       have sl:=SL
       have hx:=HXS.out
       have lk:=LK.out
       have hv:=HAV.out
       rw[HLA.out]at hc hx
       rw[HL.out]at h3x sl lk hv ⊢
       exact ready1 KK.out hc hx SOK.out BU8.out h3x (by omega) lk (by omega)
      have RDY:=Lib.hid RDY
      go_wp2
      refine wp_loop_rounds 1 ?_
      rw[rounds_succ]
      go_wp2_with (go_at_call 206;refine RDY.out.mono ?_;rintro e w12 ⟨rfl,hso⟩;have HSO:=Lib.hid hso;clear hso)
      go_ret
      exact⟨rfl,HSO.out⟩
     ·have ha1:(av==1)=false:=by rw[beq_eq_false_iff_ne];exact ha
      have ha2:(av !=1)=true:=by simp[bne,ha1]
      have hs3:¬(s1:Int)>3:=by omega
      obtain⟨n,hn⟩:∃n,n=L-s1:=⟨_,rfl⟩
      have hln:=flat_pos (p:=p) KK.out.hf KK.out.h4 (q+1) (by omega) (by omega)
      have hp3:=KK.out.hp
      rw[HQ1.out,←HXS.out,←HL.out]at hln
      have BK:=back2_calls (k:=10) KK.out HC8.out (x:=(q1:Int)) (by rw[HQ1.out]) HE.out BU8.out HL.out HR8.out (by simp) (by omega) hz8 HAB.out hq (s:=s1) (by omega) (by omega) hn
      have TK:=back_take (fn:=fn) hpq hq HQ1.out HXS.out HL.out HS1.out hn
      rw[←HS1.out]at BK
      have BK:=Lib.hid BK
      have TK:=Lib.hid TK
      have HN:=Lib.hid hn
      have hL3:3≤L:=by omega
      clear hn hln
      go_wp2
      refine wp_loop_rounds 2 ?_
      rw[rounds_succ]
      go_wp2_with (go_at_call 205;refine BK.out.mono ?_;rintro e w9 ⟨rv,rs,rfl,hc9,hb9,hl9,hr9,hm9,hz9⟩;have HC9:=Lib.hid hc9;have BU9:=Lib.hid hb9;have HL9:=Lib.hid hl9;have HR9:=Lib.hid hr9;clear hc9 hb9 hl9 hr9)
      rw[rounds_succ]
      have hqp:p<q:=by omega
      rcases hs1 with rfl|rfl
      ·have hn3:n%3=0:=by have:=HN.out;omega
       have qn:(n:Int)%3=0:=by omega
       have RDY:Calls Tryz.prog 206 #[.pointer (some ⟨c,0,none⟩),.slice (some ⟨g,0,none⟩) n cap] w9 (SegOut w0 base c mb mcap shape msg B p):=by
        have hh:=HN.out
        have r:=ready0 (q:=q) (d:=[]) KK.out HC9.out (by rw[List.append_nil];exact TK.out) (.inl rfl) (SymOk.none _ _) BU9.out hqp hq (by omega) (by rw[HL9.out];exact hn3) (by rw[HL9.out];omega)
        rw[HL9.out]at r
        exact r
       have RDY:=Lib.hid RDY
       go_wp2_with (go_at_call 206;refine RDY.out.mono ?_;rintro e w12 ⟨rfl,hso⟩;have HSO:=Lib.hid hso;clear hso)
       go_ret
       exact⟨rfl,HSO.out⟩
      ·have hn3:n%3=2:=by have:=HN.out;omega
       have qn:(n:Int)%3=2:=by omega
       have RDY:Calls Tryz.prog 206 #[.pointer (some ⟨c,0,none⟩),.slice (some ⟨g,0,none⟩) n cap] w9 (SegOut w0 base c mb mcap shape msg B p):=by
        have hh:=HN.out
        have r:=ready2b (q:=q) KK.out HC9.out TK.out (SymOk.none _ _) BU9.out (by omega) (by rw[HL9.out];exact hn3) (by rw[HL9.out];omega)
        rw[HL9.out]at r
        exact r
       have RDY:=Lib.hid RDY
       go_wp2_with (go_at_call 206;refine RDY.out.mono ?_;rintro e w12 ⟨rfl,hso⟩;have HSO:=Lib.hid hso;clear hso)
       go_ret
       exact⟨rfl,HSO.out⟩
    ·have q3:(L:Int)%3=2:=by omega
     by_cases ha:av=2
     ·have ha1:(av==2)=true:=by rw[beq_iff_eq];exact ha
      have ha2:(av !=2)=false:=by simp[bne,ha1]
      have RDY:Calls Tryz.prog 206 #[.pointer (some ⟨c,0,none⟩),.slice (some ⟨g,0,none⟩) L cap] w8 (SegOut w0 base c mb mcap shape msg B p):=by
       have hc:=HC8.out
       have h3x:=h3
       have sl:=SL
       have hx:=HXS.out
       have lk:=LK.out
       have hv:=HAV.out
       rw[HLA.out]at hc hx
       rw[HL.out]at h3x sl lk hv ⊢
       exact ready2 KK.out hc hx SOK.out BU8.out h3x (by omega) lk (by omega)
      have RDY:=Lib.hid RDY
      go_wp2
      refine wp_loop_rounds 1 ?_
      rw[rounds_succ]
      go_wp2_with (go_at_call 206;refine RDY.out.mono ?_;rintro e w12 ⟨rfl,hso⟩;have HSO:=Lib.hid hso;clear hso)
      go_ret
      exact⟨rfl,HSO.out⟩
     ·have ha1:(av==2)=false:=by rw[beq_eq_false_iff_ne];exact ha
      have ha2:(av !=2)=true:=by simp[bne,ha1]
      obtain⟨n,hn⟩:∃n,n=L-s1:=⟨_,rfl⟩
      have hln:=flat_pos (p:=p) KK.out.hf KK.out.h4 (q+1) (by omega) (by omega)
      have hp3:=KK.out.hp
      rw[HQ1.out,←HXS.out,←HL.out]at hln
      have BK:=back2_calls (k:=10) KK.out HC8.out (x:=(q1:Int)) (by rw[HQ1.out]) HE.out BU8.out HL.out HR8.out (by simp) (by omega) hz8 HAB.out hq (s:=s1) (by omega) (by omega) hn
      have TK:=back_take (fn:=fn) hpq hq HQ1.out HXS.out HL.out HS1.out hn
      rw[←HS1.out]at BK
      have BK:=Lib.hid BK
      have TK:=Lib.hid TK
      have HN:=Lib.hid hn
      have hL3:3≤L:=by omega
      clear hn hln
      have hqp:p<q:=by omega
      go_wp2_with (go_at_call 205;refine BK.out.mono ?_;rintro e w9 ⟨rv,rs,rfl,hc9,hb9,hl9,hr9,hm9,hz9⟩;have HC9:=Lib.hid hc9;have BU9:=Lib.hid hb9;have HL9:=Lib.hid hl9;have HR9:=Lib.hid hr9;clear hc9 hb9 hl9 hr9)
      rcases hs1 with rfl|rfl
      ·have hn3:n%3=1:=by have:=HN.out;omega
       have qn:(n:Int)%3=1:=by omega
       obtain⟨q0,hq0⟩:∃q0,q0+1=q:=⟨q-1,by omega⟩
       have HQ0:=Lib.hid hq0
       clear hq0
       by_cases hb:av=1
       ·have hb1:(av==1)=true:=by rw[beq_iff_eq];exact hb
        have hb2:(av !=1)=false:=by simp[bne,hb1]
        have RDY:Calls Tryz.prog 206 #[.pointer (some ⟨c,0,none⟩),.slice (some ⟨g,0,none⟩) n cap] w9 (SegOut w0 base c mb mcap shape msg B p):=by
         have hh:=HN.out
         have lk:=LK.out
         have hv:=HAV.out
         have h00:=HQ0.out
         have hc:=HC9.out
         have tk:=TK.out
         rw[←h00]at hc tk
         have e3:n/3=L/3:=by omega
         rw[←e3]at lk hv
         have r:=ready1b (q:=q0) (i:=i) KK.out hc tk (SymOk.none _ _) BU9.out (by omega) (by rw[HL9.out];exact hn3) (by rw[HL9.out];omega) (by rw[HL9.out];exact lk) (by rw[HL9.out];omega)
         rw[HL9.out]at r
         exact r
        have RDY:=Lib.hid RDY
        refine wp_loop_rounds 1 ?_
        rw[rounds_succ]
        go_wp2_with (go_at_call 206;refine RDY.out.mono ?_;rintro e w12 ⟨rfl,hso⟩;have HSO:=Lib.hid hso;clear hso)
        go_ret
        exact⟨rfl,HSO.out⟩
       ·have hb1:(av==1)=false:=by rw[beq_eq_false_iff_ne];exact hb
        have hb2:(av !=1)=true:=by simp[bne,hb1]
        obtain⟨n2,hn2⟩:∃n2,n2=n-1:=⟨_,rfl⟩
        have BK2:=back2_calls (k:=20) (q:=q0) KK.out HC9.out (x:=(q:Int)) (by have:=HQ0.out;omega) HE.out BU9.out HL9.out.symm HR9.out (by omega) (by omega) hz9 HAB.out.noSym (by have:=HQ0.out;omega) (s:=1) (by have:=HN.out;omega) (by have:=HN.out;omega) hn2
        have BK2:=Lib.hid BK2
        have HN2:=Lib.hid hn2
        clear hn2
        refine wp_loop_rounds 2 ?_
        rw[rounds_succ]
        go_wp2_with (go_at_call 205;refine BK2.out.mono ?_;rintro e w10 ⟨rv2,rs2,rfl,hc10,hb10,hl10,hr10,hm10,hz10⟩;have HC10:=Lib.hid hc10;have BU10:=Lib.hid hb10;have HL10:=Lib.hid hl10;clear hc10 hb10 hl10 hr10)
        rw[rounds_succ]
        have hn4:n2%3=0:=by have:=HN2.out;omega
        have qn2:(n2:Int)%3=0:=by omega
        have RDY:Calls Tryz.prog 206 #[.pointer (some ⟨c,0,none⟩),.slice (some ⟨g,0,none⟩) n2 cap] w10 (SegOut w0 base c mb mcap shape msg B p):=by
         have hh:=HN.out
         have hh2:=HN2.out
         have h00:=HQ0.out
         have tk:=TK.out
         rw[←h00]at tk
         obtain⟨d,hd,e⟩:=drop_last (msg:=msg) (p:=p) (fn:=fn) (q:=q0) KK.out.hf (by omega) (by omega) (KK.out.h4 q0 (by omega))
         rw[←tk,HL9.out,←hh2]at e
         have r:=ready0 (q:=q0) (d:=d) KK.out HC10.out e hd (SymOk.none _ _) BU10.out (by omega) (by omega) (by omega) (by rw[HL10.out];exact hn4) (by rw[HL10.out];omega)
         rw[HL10.out]at r
         exact r
        have RDY:=Lib.hid RDY
        go_wp2_with (go_at_call 206;refine RDY.out.mono ?_;rintro e w12 ⟨rfl,hso⟩;have HSO:=Lib.hid hso;clear hso)
        go_ret
        exact⟨rfl,HSO.out⟩
      ·have hn3:n%3=0:=by have:=HN.out;omega
       have qn:(n:Int)%3=0:=by omega
       have RDY:Calls Tryz.prog 206 #[.pointer (some ⟨c,0,none⟩),.slice (some ⟨g,0,none⟩) n cap] w9 (SegOut w0 base c mb mcap shape msg B p):=by
        have hh:=HN.out
        have r:=ready0 (q:=q) (d:=[]) KK.out HC9.out (by rw[List.append_nil];exact TK.out) (.inl rfl) (SymOk.none _ _) BU9.out hqp hq (by omega) (by rw[HL9.out];exact hn3) (by rw[HL9.out];omega)
        rw[HL9.out]at r
        exact r
       have RDY:=Lib.hid RDY
       refine wp_loop_rounds 1 ?_
       rw[rounds_succ]
       go_wp2_with (go_at_call 206;refine RDY.out.mono ?_;rintro e w12 ⟨rfl,hso⟩;have HSO:=Lib.hid hso;clear hso)
       go_ret
       exact⟨rfl,HSO.out⟩
   ·have hdt2:decide ((q1:Int)<(msg.length:Int)-0)=true:=decide_eq_true (by omega)
    rw[hdt2]at MO2
    have MO2:=Lib.hid MO2
    clear hdt2
    have h3:L%3=0∨L%3=1∨L%3=2:=by omega
    rcases h3 with h3|h3|h3
    ·have q3:(L:Int)%3=0:=by omega
     go_upto_region 21 with(go_at_call 89;refine MO2.out.mono ?_;rintro e w8 ⟨rfl,n8,rfl⟩)
     have HD:=Lib.hid (HC5.out.drewN n8)
     have BUD:=Lib.hid (BUF.out.drewN n8)
     clear MO2 HC5 BUF HO5
     generalize w7.drewN n8=w8 at*
     obtain⟨md,hmd⟩:∃md,md=mo fn:=⟨_,rfl⟩
     obtain⟨r,hr⟩:∃r,r=lkTest md ((msg.drop q1).map clsOf):=⟨_,rfl⟩
     have hm2:md≤2:=by rw[hmd];unfold mo;split<;>omega
     have LKT:∀(wx:World),Bytes wx mb msg→Calls Tryz.prog 175 #[.slice (some ⟨mb,0,none⟩) msg.length mcap,.int .i64 (q1:Int),.int .i64 (md:Int)] wx (LkPost wx r):=fun wx hb=>by rw[hr];exact look_calls hb (by omega) hm KK.out.h4 hm2
     rw[←hmd]at HE
     have LKT:=Lib.hid LKT
     have HMD:=Lib.hid hmd
     have HR:=Lib.hid hr
     clear hr hmd
     go_cut [14] (fun a wx=>a= .int .i64 (r:Int)∧Hid (Ctx w0 wx base c mb mcap shape msg v cw (q1:Int) ne (some (i,sb)) 0)∧Hid (Buf wx c v base bb g cap xs))
     case first=>
      have HDd:Hid (Ctx w0 w8.drew base c mb mcap shape msg v cw (q1:Int) ne (some (i,sb)) 0):=HD.out.drewN 1
      have BDd:Hid (Buf w8.drew c v base bb g cap xs):=BUD.out.drewN 1
      have k5:w8.drew.cell? ⟨c,5,none⟩=some (.int .i64 (q1:Int)):=HDd.out.c5
      have e0:w8.drew.cell? ⟨eb,0,none⟩=some (.int .i64 (md:Int)):=by rw[cell_blk (eb_at HDd.out HE.out)];rfl
      go_still_tail 8,(by kernel_rfl)
      still_call (getMsg_calls HDd.out)
      repeat still_step
      still_call (mode204_calls e0)
      repeat still_step
      refine wpStill_nil ?_
      change wpList _ _ _ _ _ w8.drew
      clear k5 e0
      generalize w8.drew=w9 at*
      go_wp2_with (go_at_call 175;refine(LKT.out w9 HDd.out.byt).mono ?_;rintro e w10 ⟨rfl,hbl⟩;have HC9:=Lib.hid (HDd.out.keep hbl);have BU9:=Lib.hid (BDd.out.keep hbl);clear hbl)
      go_meet
      case rel=>exact⟨rfl,HC9,BU9⟩
     case rest=>
      obtain⟨rfl,HC9,BU9⟩:=hcut
      have e0:wc.cell? ⟨eb,0,none⟩=some (.int .i64 (md:Int)):=by rw[cell_blk (eb_at HC9.out HE.out)];rfl
      by_cases hk:r=md
      ·subst hk
       go_wp2_with (go_at_call 204;refine(mode204_calls e0).mono ?_;rintro e w10 ⟨rfl,rfl⟩)
       refine⟨⟨q1,some (i,sb),Lib.hid (HI.out.next' KK.out HQ1.out HXS.out HL.out HC9.out LK.out (by rw[HL.out];exact BU9.out.own) BU9.out.hbs (by omega) (.inr ?_))⟩,by rw[HPA.out,HC9.out.posAt];omega⟩
       rw[←HMD.out];exact HR.out.symm
      ·have hkb:((r:Int)==(md:Int))=false:=by rw[beq_eq_false_iff_ne];omega
       have hki:¬(r:Int)=(md:Int):=by omega
       have NX3:=NX.out.2.2 h3
       rw[←HMD.out,←HR.out]at NX3
       have RDY:∀wx,Ctx w0 wx base c mb mcap shape msg v cw (q1:Int) 0 (some (i,sb)) 0→Buf wx c v base bb g cap xs→Calls Tryz.prog 206 #[.pointer (some ⟨c,0,none⟩),.slice (some ⟨g,0,none⟩) L cap] wx (SegOut w0 base c mb mcap shape msg B p):=fun wx hc hbf=>by
        have h3x:=h3
        have tt:=NX3 hk
        have ss:=SOK.out
        rw[HL.out]at h3x tt ⊢
        rw[HXS.out]at h3x tt hbf ss ⊢
        exact ready_exit KK.out hc ss hbf (by omega) (by omega) h3x tt
       have RDY:=Lib.hid RDY
       clear NX3
       go_wp2_with (first
        |(go_at_call 204;refine(mode204_calls e0).mono ?_;rintro e w10 ⟨rfl,rfl⟩)
        |(go_at_call 176;refine(signal2_calls HC9.out 0).mono ?_;rintro e w11 ⟨rfl,hc11,hw11⟩;have HC11:=Lib.hid hc11;have BU11:=Lib.hid (show Buf w11 c v base bb g cap xs from by rw[hw11];exact BU9.out.set);clear hc11 hw11)
        |(go_at_call 206;refine(RDY.out _ HC11.out BU11.out).mono ?_;rintro e w12 ⟨rfl,hso⟩;have HSO:=Lib.hid hso;clear hso))
       go_ret
       exact⟨rfl,HSO.out⟩
    ·have q3:(L:Int)%3=1:=by omega
     go_wp2_with (go_at_call 89;refine MO2.out.mono ?_;rintro e w8 ⟨rfl,n8,rfl⟩)
     exact⟨⟨q1,some (i,sb),Lib.hid (HI.out.next' KK.out HQ1.out HXS.out HL.out (HC5.out.drewN n8) LK.out (HO5.out.drewN n8) hz7 (by omega) (.inl (by omega)))⟩,by rw[HPA.out,(HC5.out.drewN n8).posAt];omega⟩
    ·have q3:(L:Int)%3=2:=by omega
     go_wp2_with (go_at_call 89;refine MO2.out.mono ?_;rintro e w8 ⟨rfl,n8,rfl⟩)
     exact⟨⟨q1,some (i,sb),Lib.hid (HI.out.next' KK.out HQ1.out HXS.out HL.out (HC5.out.drewN n8) LK.out (HO5.out.drewN n8) hz7 (by omega) (.inl (by omega)))⟩,by rw[HPA.out,(HC5.out.drewN n8).posAt];omega⟩
end
end Go.Proofs.YtcnallabiffemaaGreatDoor
