/- EncodeHighLevel of a text of letters, digits and blanks. -/
import Derived.Test.YtcnallabiffemaaGreatDoorZt11
import Derived.Deep.CutRange
import Derived.Deep.DeepCutAuto
set_option linter.unusedVariables false
set_option linter.unusedSimpArgs false
namespace Go.Proofs.YtcnallabiffemaaGreatDoor
section
open Go.RowKit
def padsN (n t:Nat):List Nat:=(List.range t).map fun j=>if j=0 then 129 else padN (n+j+1)
@[simp] theorem padsN_len (n t:Nat):(padsN n t).length=t:=by simp[padsN]
theorem padsN_succ (n t:Nat):padsN n (t+1)=padsN n t++[if t=0 then 129 else padN (n+t+1)]:=by simp[padsN,List.range_succ]
theorem padsN_get {n t j:Nat} (h:j<t):(padsN n t).getD j 0=if j=0 then 129 else padN (n+j+1):=by
 rw[List.getD_eq_getElem?_getD];simp[padsN,h]
theorem padN_lt (p:Nat):padN p<256:=by
 unfold padN
 have:=Nat.mod_lt (149*p) (show 0<253 by decide)
 split<;>omega
theorem padsN_small (n t:Nat):∀x∈padsN n t,x<256:=by
 intro x hx
 simp only[padsN,List.mem_map]at hx
 obtain⟨j,-,rfl⟩:=hx
 split
 ·omega
 ·exact padN_lt _
theorem RA_pads (cw msg:List Nat) (t:Nat):RA (cw++padsN cw.length t) cw.length msg msg:=by
 cases t with
 |zero=>exact .fin (by simp[padsN])
 |succ t=>
  have hg:∀j,j<t+1→(cw++padsN cw.length (t+1)).getD (cw.length+j) 0=if j=0 then 129 else padN (cw.length+j+1):=fun j hj=>by
   rw[List.getD_eq_getElem?_getD,List.getElem?_append_right (by omega),Nat.add_sub_cancel_left,←List.getD_eq_getElem?_getD,padsN_get hj]
  refine .pad (by simp) ?_ (fun j h1 h2=>?_)
  ·have:=hg 0 (by omega);simpa using this
  ·obtain⟨d,rfl⟩:∃d,j=cw.length+d:=⟨j-cw.length,by omega⟩
   rw[hg d (by simp at h2;omega),if_neg (by omega)]
theorem look_lt29 {k s i:Nat} (hs:s<3) (hk:k≤if s=2 then 49 else 1304) (h:lookSym (k:Int) s=some i):i<29:=by
 have h1:=List.find?_some h
 have h2:=List.mem_range.1 (List.mem_of_find?_eq_some h)
 rcases Nat.lt_or_ge i 29 with h3|h3
 ·exact h3
 ·exfalso
  obtain rfl:i=29:=by omega
  have hK:∃i0,i0<29∧fitsSym (k:Int) s i0=true:=by
   by_cases h2:s=2
   ·subst h2
    rw[if_pos rfl]at hk
    obtain⟨i0,a,b,d⟩:=(by decide+kernel:∃i,i<29∧rectOf i=true∧(49:Int)≤dataOf i)
    refine⟨i0,a,?_⟩
    simp only[fitsSym,b,Bool.and_eq_true,decide_eq_true_eq]
    exact⟨by decide,by omega⟩
   ·rw[if_neg h2]at hk
    obtain⟨i0,a,b,d⟩:=(by decide+kernel:∃i,i<29∧rectOf i=false∧(1304:Int)≤dataOf i)
    refine⟨i0,a,?_⟩
    have h2':(s==2)=false:=by simpa using h2
    simp only[fitsSym,b,h2',Bool.and_eq_true,decide_eq_true_eq]
    exact⟨by simp,by omega⟩
  obtain⟨i0,ha,hb⟩:=hK
  obtain⟨la,bs,hl,hn⟩:=(List.find?_eq_some_iff_append.1 h).2
  have:i0∈la:=by
   have hm:i0∈List.range 30:=List.mem_range.2 (by omega)
   have hlen:la.length=29:=by
    have e:=congrArg (fun l=>l[la.length]?) hl
    simp only[List.getElem?_append_right (Nat.le_refl _),Nat.sub_self,List.getElem?_cons_zero]at e
    rw[List.getElem?_range (by have:=congrArg List.length hl;simp at this;omega)]at e
    exact Option.some.inj e
   have e:(List.range 30)[i0]? =(la++29::bs)[i0]? :=by rw[←hl]
   rw[List.getElem?_range (by omega),List.getElem?_append_left (by omega)]at e
   exact List.mem_of_getElem? e.symm
  have:=hn i0 this
  rw[hb]at this
  exact absurd this (by decide)
section
variable {w0 w:World} {base c mb mcap shape:Nat} {msg:List Nat} {v:Value} {cw:List Nat} {pos ne:Int} {sym:Option (Nat×Nat)} {skip:Int}
theorem getNe_calls (h:Ctx w0 w base c mb mcap shape msg v cw pos ne sym skip):Calls Tryz.prog 90 #[.pointer (some ⟨c,0,none⟩)] w fun e w'=>e= .returned (.int .i64 ne)∧w'=w:=by
 have k:=h.c6
 clear h
 go_enter Tryz.func90,Tryz.ntmps90
 go_wp2
 go_ret
 exact⟨rfl,rfl⟩
theorem resetNe_calls (h:Ctx w0 w base c mb mcap shape msg v cw pos ne sym skip):Calls Tryz.prog 91 #[.pointer (some ⟨c,0,none⟩)] w fun e w'=>e= .returned (.tuple #[])∧Ctx w0 w' base c mb mcap shape msg v cw pos (-1) sym skip:=by
 have k:=h.c6
 have f:=frozen_blk h.blk 6
 have S:=Lib.hid (h.setNe (-1))
 clear h
 go_enter Tryz.func91,Tryz.ntmps91
 go_wp2
 go_end0
 exact⟨rfl,S.out⟩
theorem rand98_calls (p:Nat) (h1:1≤p) (h2:p≤100000) (w:World):Calls Tryz.prog 98 #[.int .i64 p] w fun e w'=>e= .returned (.int .u8 (padN p))∧w'=w:=by
 have e:(149*(p:Int))%253=((149*p%253:Nat):Int):=by omega
 obtain⟨r,hr⟩:∃r,r=padN p:=⟨_,rfl⟩
 rw[←hr]
 have hr2:Hid (r=if 149*p%253+130>254 then 149*p%253+130-254 else 149*p%253+130):=Lib.hid hr
 have hz:149*p%253<253:=Nat.mod_lt _ (by decide)
 clear hr
 generalize 149*p%253=z at*
 have hb:0≤(z:Int)∧(z:Int)<253:=by omega
 by_cases hg:z+130>254
 ·have hg1:¬129+((z:Int)+1)≤254:=by omega
  have hr3:Hid ((129+((z:Int)+1)-254:Int)=(r:Int)):=by have:=hr2.out;rw[if_pos hg]at this;exact Lib.hid (by omega)
  go_enter Tryz.func98,Tryz.ntmps98
  go_wp2
  go_ret
  exact⟨by rw[←hr3.out];rfl,rfl⟩
 ·have hg1:129+((z:Int)+1)≤254:=by omega
  have hr3:Hid ((129+((z:Int)+1):Int)=(r:Int)):=by have:=hr2.out;rw[if_neg hg]at this;exact Lib.hid (by omega)
  go_enter Tryz.func98,Tryz.ntmps98
  go_wp2
  go_ret
  exact⟨by rw[←hr3.out];rfl,rfl⟩
structure HighS (w0 w:World) (base c mb mcap shape:Nat) (msg:List Nat) (B mode p:Nat) (v:Value) (cw:List Nat) (sym:Option (Nat×Nat)):Prop where
 ctx:Ctx w0 w base c mb mcap shape msg v cw (p:Int) (-1) sym 0
 enc:Enc msg shape B mode p cw
 sok:SymOk shape cw.length sym
 sm:∀x∈cw,x<256
 ne:0<p∨mode≠0→0<cw.length
structure HighK (msg:List Nat) (shape B:Nat):Prop where
 h4:∀i,i<msg.length→clsOf (msg.getD i 0)<4
 h1:1≤msg.length
 hl:msg.length≤1000
 hs:shape<3
 hB:B≤1304
 hB2:shape=2→B≤49
 hlook:∀k,k≤B→∃i,lookSym (k:Int) shape=some i
 hrun:∀n,Run 0 (msg.map clsOf) n→n≤B
theorem HighK.seg {B p:Nat} {fn:Nat} {cw:List Nat} (K:HighK msg shape B) (h:Enc msg shape B (mo fn) p cw) (hf:fn=124∨fn=125) (hsm:∀x∈cw,x<256) (h0:0<cw.length):SegK fn msg shape B p cw∧Tot (msg.map clsOf) (kb fn) p cw.length:=by
 have hb:=h.bound K.hl K.hrun
 obtain⟨m,hm⟩:∃m,m=mo fn:=⟨_,rfl⟩
 rw[←hm]at h
 cases h with
 |norm=>rcases hf with rfl|rfl<;>cases hm
 |seg h1 h2 h3 h4=>
  rename_i fn'
  obtain rfl:fn'=fn:=by rcases hf with rfl|rfl<;>rcases h1 with rfl|rfl<;>first|rfl|cases hm
  exact⟨⟨h1,K.h4,h2,K.hl,K.hs,K.hB,K.hlook,K.hrun,h0,hb,hsm,h4⟩,h3⟩
 |tail=>rcases hf with rfl|rfl<;>cases hm
 |last=>rcases hf with rfl|rfl<;>cases hm
 |done=>rcases hf with rfl|rfl<;>cases hm
theorem Enc.mode {B m p:Nat} (h:Enc msg shape B m p cw):m=0∨(m=1∧p+3≤msg.length)∨(m=2∧p+3≤msg.length):=by
 cases h with
 |norm=>exact .inl rfl
 |seg h1 h2 h3 h4=>
  rcases h1 with rfl|rfl
  ·exact .inr (.inl ⟨rfl,h2⟩)
  ·exact .inr (.inr ⟨rfl,h2⟩)
 |tail=>exact .inl rfl
 |last=>exact .inl rfl
 |done=>exact .inl rfl
end
end
section
open Go.RowKit
theorem hmp:∀(w:World) (b:Nat),(method 334 159 (Value.pointer (some ⟨b,0,none⟩)) "zxdatamatrix/pub/zxdmencoder.encode").run Tryz.prog w= .ok (203,Value.pointer (some ⟨b,0,none⟩)) w:=fun _ _=>by kernel_rfl
structure HighG (msg:List Nat) (shape:Nat) (l:List Nat) (i:Nat):Prop where
 lk:lookSym (l.length:Int) shape=some i
 i29:i<29
 dat:dataOf i=(l.length:Int)
 rd:RA l 0 [] msg
 sm:∀x∈l,x<256
 n1:1≤l.length
 n2:l.length≤1304
def HighE (msg:List Nat) (shape:Nat) (w:World) (e:Ending) (w':World):Prop:=∃l i,HighG msg shape l i∧HighPost l w e w'
section
variable {w0 w:World} {base c mb mcap shape B:Nat} {msg:List Nat} {v:Value} {cw:List Nat} {pos ne:Int} {sym:Option (Nat×Nat)} {skip:Int}
theorem data_le29:∀i,i<29→dataOf i≤1304:=by decide+kernel
theorem HighS.good {p:Nat} (K:HighK msg shape B) (h:HighS w0 w base c mb mcap shape msg B 0 p v cw sym) (hp:p=msg.length):
 ∃i,lookSym (cw.length:Int) shape=some i∧(cw.length:Int)≤dataOf i∧HighG msg shape (cw++padsN cw.length ((dataOf i).toNat-cw.length)) i:=by
 obtain⟨i,hi,hr⟩:=h.enc.fin hp K.hl K.hrun K.hlook
 have hle:=look_le hi
 have hb:=h.enc.bound K.hl K.hrun
 have hB:=K.hB
 have hB2:=K.hB2
 have i29:=look_lt29 K.hs (by split<;>omega) hi
 have hd:=data_le29 i i29
 have e:((cw++padsN cw.length ((dataOf i).toNat-cw.length)).length:Int)=dataOf i:=by rw[List.length_append,padsN_len];omega
 have h1:=K.h1
 have h0:=h.ne (.inl (by omega))
 refine⟨i,hi,hle.1,⟨look_mono hi (by rw[e];exact hle.1) (by rw[e];exact Int.le_refl _),i29,e.symm,hr _ _ (by rw[padsN_len];omega) (RA_pads cw msg _),?_,?_,by omega⟩⟩
 ·intro x hx
  rcases List.mem_append.1 hx with hx|hx
  ·exact h.sm x hx
  ·exact padsN_small _ _ x hx
 ·rw[List.length_append];omega
structure PadI (w0 wr:World) (base c:Nat) (cs:Array Value) (u:Value) (l:List Nat):Prop where
 own:Own wr base .u8 5 u l
 below:Below w0.heap.size w0 wr
 blk:wr.heap[c]? =some (.cells cs 125)
 b0:w0.heap.size≤base
 b3:base≤wr.heap.size
theorem PadI.app {wr w':World} {cs:Array Value} {u u':Value} {l l':List Nat} {o:Obj} (h:PadI w0 wr base c cs u l) (hg:(wr.alloc o).grownBy w' u.ownBlock) (ho:Own w' base .u8 5 u' l'):PadI w0 w' base c cs u' l':=by
 have hc:=lt_of_some h.blk
 refine⟨ho,(h.below.alloc h.below.size o).grown hg (by have:=h.below.size;simp;omega) (fun g e=>Nat.le_trans h.b0 (h.own.lt g e).1),?_,h.b0,by have:=h.b3;have:=hg.size;simp at this;omega⟩
 refine(hg.block c (by simp;omega) (fun e=>?_)).trans ((Below.heap_alloc _ _ _ hc).trans h.blk)
 obtain⟨cs2,h1⟩:=h.own.tag c e.symm
 rw[h.blk]at h1
 injection h1 with h1;injection h1 with _ h1
 exact absurd h1 (by decide)
theorem one_small {x:Nat} (h:∀x∈cw,x<256) (hx:x<256):∀y∈cw++[x],y<256:=by
 intro y hy
 rcases List.mem_append.1 hy with hy|hy
 ·exact h y hy
 ·simp at hy;omega
theorem upd93g {i:Nat} (h:Ctx w0 w base c mb mcap shape msg v cw pos ne sym skip) (hs:shape<3) (hl:lookSym (cw.length:Int) shape=some i) (hj:∀j b,sym=some (j,b)→((cw.length:Nat):Int)≤dataOf j→j=i) (h1:0<cw.length):
 Calls Tryz.prog 93 #[.pointer (some ⟨c,0,none⟩)] w fun e w'=>e= .returned .nilIface∧∃b,Ctx w0 w' base c mb mcap shape msg v cw pos ne (some (i,b)) skip:=by
 have H:=Lib.hid h
 have HL:=Lib.hid hl
 have HJ:=Lib.hid hj
 clear h hl hj
 go_enter Tryz.func93,Tryz.ntmps93
 go_wp2_with (first|(go_at_call 92;refine(count_calls H.out h1).mono ?_;rintro e w1 ⟨rfl,rfl⟩)|(go_at_call 130;refine(updG_calls H.out hs HL.out HJ.out).mono ?_;rintro e w2 ⟨rfl,⟨b,hc⟩,-⟩;have HC:=Lib.hid hc;clear hc))
 go_ret
 exact⟨rfl,_,HC.out⟩
theorem PadI.cells {wr:World} {u:Value} {l:List Nat} (h:PadI w0 wr base c (ctxC mb msg.length mcap shape v pos ne sym skip) u l) (hcb:w0.heap.size≤c):
 wr.cell? ⟨c,4,none⟩=some v∧wr.frozen? ⟨c,4,none⟩=false∧(wr.setCell ⟨c,4,none⟩ u).cell? ⟨c,4,none⟩=some u∧Own (wr.setCell ⟨c,4,none⟩ u) base .u8 5 u l∧Below w0.heap.size w0 (wr.setCell ⟨c,4,none⟩ u):=by
 refine⟨by rw[cell_blk h.blk];rfl,frozen_blk h.blk 4,?_,h.own.set_ne (fun e=>?_) _,h.below.setCell hcb _⟩
 ·rw[cell_blk (heap_setCell_at h.blk 4 u)];rfl
 ·obtain⟨cs,h1⟩:=h.own.tag _ e
  rw[h.blk]at h1
  injection h1 with h1;injection h1 with _ h1
  exact absurd h1 (by decide)
theorem PadI.drewN {wr:World} {cs:Array Value} {u:Value} {l:List Nat} (h:PadI w0 wr base c cs u l) (n:Nat):PadI w0 (wr.drewN n) base c cs u l:=⟨h.own.drewN n,below_dr h.below n,h.blk,h.b0,h.b3⟩
theorem ctx_start2 {w W1 w3:World} {k:Nat} {cs:Array Value} {t:Nat}
 (h:Ctx W1 w3 base c mb mcap shape msg v cw pos ne sym skip) (hb:Below w.heap.size w W1) (ht:W1.heap[k+1+1]? =some (.cells cs t)) (h1:W1.heap[k]? =some (.cells #[.int .i64 ((mo 124:Nat):Int),.func (.func 124) #[] #[]] 162))
 (h2:W1.heap[k+1]? =some (.cells #[.int .i64 ((mo 125:Nat):Int),.func (.func 125) #[] #[]] 162)):
 ∃W0,Ctx W0 w3 base c mb mcap shape msg v cw pos ne sym skip∧Below w.heap.size w W0∧W0.heap[k+1+1]? =some (.cells cs t)∧W0.heap[k]? =some (.cells #[.int .i64 ((mo 124:Nat):Int),.func (.func 124) #[] #[]] 162)∧
  W0.heap[k+1]? =some (.cells #[.int .i64 ((mo 125:Nat):Int),.func (.func 125) #[] #[]] 162):=⟨W1,h,hb,ht,h1,h2⟩
set_option maxRecDepth 100000 in
set_option maxHeartbeats 8000000 in
theorem high_calls {s:ByteArray} (K:HighK msg shape B) (zz:∀w,Calls Tryz.prog 126 #[.int .i64 1,.string s] w (HighPost msg w)) (hno:noHead s) (hsm:Small msg) (w:World):
 Calls Tryz.prog 46 #[.string s,.int .i64 shape,.pointer none,.pointer none] w (HighE msg shape w):=by
 have H126:=Lib.hid zz
 have HNO:=Lib.hid hno
 have HSM:=Lib.hid hsm
 have KK:=Lib.hid K
 have h1:=K.h1
 have hl:=K.hl
 clear zz hno hsm K
 go_enter Tryz.func46,Tryz.ntmps46
 go_wp2_with (first|(go_at_call 82;refine(newC_calls (H126.out _) h1 (by omega) HSM.out).mono ?_;rintro e w1 ⟨base,c,mb,mcap,v0,rfl,hc⟩;have HC:=Lib.hid hc;clear hc)|(go_at_call 83;refine(setShape_calls HC.out shape).mono ?_;rintro e w2 ⟨rfl,hc⟩;have HC:=Lib.hid hc;clear hc)|(go_at_call 84;refine(setSize_calls HC.out).mono ?_;rintro e w3 ⟨rfl,hc⟩;have HC:=Lib.hid hc;clear hc)|(go_at_call 85;first|(refine(pre5_calls HNO.out).mono ?_;rintro e w4 ⟨rfl,rfl⟩)|(refine(pre6_calls HNO.out).mono ?_;rintro e w5 ⟨rfl,rfl⟩))|(go_at_call 76;go_in)|(go_at_call 77;go_in)|(go_at_call 78;go_in)|(go_at_call 79;go_in)|(go_at_call 80;go_in)|(go_at_call 81;go_in))
 obtain⟨W0,hC0,hB0,hT0,hE1,hE2⟩:=ctx_start2 (k:=w.heap.size) HC.out ((((Below.refl _ _).alloc (Nat.le_refl _) _).alloc (by simp) _).alloc (by simp;omega) _) (new_last (by simp) _)
  ((Below.heap_alloc _ _ _ (by simp;omega)).trans ((Below.heap_alloc _ _ _ (by simp)).trans (new_last rfl _))) ((Below.heap_alloc _ _ _ (by simp)).trans (new_last (by simp) _))
 have HB0:=Lib.hid hB0
 have HT0:=Lib.hid hT0
 have HE1:=Lib.hid hE1
 have HE2:=Lib.hid hE2
 have HH0:Hid (HighS W0 w5 base c mb mcap shape msg B 0 0 v0 [] none):=⟨hC0,Enc.start _ _ _,SymOk.none _ _,fun x h=>(by cases h),fun h=>by rcases h with h|h<;>omega⟩
 clear hC0 hB0 hT0 hE1 hE2 HC
 go_loopw [13] (fun m wr=>∃mode p v cw sym,m= .int .i64 ((mode:Nat):Int)∧Hid (HighS W0 wr base c mb mcap shape msg B mode p v cw sym)) (fun m wr=>2*(msg.length-posAt wr c)+(1-(intOf m).toNat))
 case atStart=>exact⟨0,0,v0,[],none,rfl,HH0⟩
 case round=>
  clear HH0
  obtain⟨mode,p,v,cw,sym,rfl,HH⟩:=hrel
  have HX:=Lib.hid HH.out.ctx
  have HPA:=Lib.hid HX.out.posAt
  have hple:=HH.out.enc.le
  have hBB:=KK.out.hB
  have hbd:=HH.out.enc.bound hl KK.out.hrun
  have hm0:=hme
  have hm1:=hmp
  have hbk:=(HX.out.below.block _ (lt_of_some HT0.out)).trans HT0.out
  have e0:=cell_blk hbk 0
  have e1:=cell_blk hbk 1
  have e2:=cell_blk hbk 2
  clear hbk
  have MO:=fun w' (h':Ctx W0 w' base c mb mcap shape msg v cw (p:Int) (-1) sym 0)=>more_calls h' (by omega) (Int.le_refl 0) (by decide)
  by_cases hlt:p<msg.length
  ·have hdt:decide ((p:Int)<(msg.length:Int)-0)=true:=decide_eq_true (by omega)
   rw[hdt]at MO
   have MO:=Lib.hid MO
   clear hdt
   have hpb:0≤(p:Int)∧(p:Int)≤1000:=by omega
   rcases HH.out.enc.mode with hm|⟨hm,hp3⟩|⟨hm,hp3⟩
   ·subst hm
    by_cases hd:2≤digRun (msg.drop p)
    ·have hp2:=(digRun_two hd).1
     have hpr:pairOf (msg.getD p 0) (msg.getD (p+1) 0)<256:=by
      obtain⟨_,d1,d2⟩:=digRun_two hd
      have b1:=dig_bounds d1
      have b2:=dig_bounds d2
      unfold pairOf;omega
     have A0:∀wx,Ctx W0 wx base c mb mcap shape msg v cw (p:Int) (-1) sym 0→Calls Tryz.prog 169 #[.agg #[],.pointer (some ⟨c,0,none⟩)] wx fun e w'=>e= .returned .nilIface∧∃v',Ctx W0 w' base c mb mcap shape msg v' (cw++[pairOf (msg.getD p 0) (msg.getD (p+1) 0)]) ((p+2:Nat):Int) (-1) sym 0:=fun wx hc=>by
      have:=asciiPair_calls hc (by omega) (by omega) hd
      rwa [show ((p:Int)+2)=((p+2:Nat):Int) by omega]at this
     have HEN:=Lib.hid (HH.out.enc.pair rfl hd)
     generalize pairOf (msg.getD p 0) (msg.getD (p+1) 0)=pr at*
     have A0:=Lib.hid A0
     go_wp2_with (first|(go_at_call 89;refine(MO.out _ HX.out).mono ?_;rintro e w6 ⟨rfl,n6,rfl⟩)|(go_at_call 169;refine(A0.out _ (HX.out.drewN _)).mono ?_;rintro e w7 ⟨rfl,v7,hc7⟩;have HC7:=Lib.hid hc7;clear hc7)|(go_at_call 90;refine(getNe_calls HC7.out).mono ?_;rintro e w8 ⟨rfl,rfl⟩))
     exact⟨⟨0,p+2,v7,_,sym,rfl,Lib.hid ⟨HC7.out,HEN.out,HH.out.sok.mono (by simp),one_small HH.out.sm hpr,fun _=>by simp⟩⟩,by rw[HPA.out,HC7.out.posAt];simp[intOf];omega⟩
    ·obtain⟨r,hr⟩:∃r,r=lkTest 0 ((msg.drop p).map clsOf):=⟨_,rfl⟩
     have hr3:r≤2:=by rw[hr];exact lkTest_le _ _
     have HR:=Lib.hid hr
     clear hr
     have hr4:r=0∨r=1∨r=2:=by omega
     rcases hr4 with rfl|rfl|rfl
     ·have hch:=cls_cases (KK.out.h4 p hlt)
      have A1:∀wx,Ctx W0 wx base c mb mcap shape msg v cw (p:Int) (-1) sym 0→Calls Tryz.prog 169 #[.agg #[],.pointer (some ⟨c,0,none⟩)] wx fun e w'=>e= .returned .nilIface∧∃v',Ctx W0 w' base c mb mcap shape msg v' (cw++[msg.getD p 0+1]) ((p+1:Nat):Int) (-1) sym 0:=fun wx hc=>asciiOne_calls (r:=0) hc hl (by omega) hlt (by omega) KK.out.h4 HR.out (by omega)
      have HEN:=Lib.hid (HH.out.enc.one rfl hlt (by omega) KK.out.h4 HR.out.symm)
      have hpr:msg.getD p 0+1<256:=by omega
      clear hch
      generalize msg.getD p 0+1=pr at*
      have A1:=Lib.hid A1
      go_wp2_with (first|(go_at_call 89;refine(MO.out _ HX.out).mono ?_;rintro e w6 ⟨rfl,n6,rfl⟩)|(go_at_call 169;refine(A1.out _ (HX.out.drewN _)).mono ?_;rintro e w7 ⟨rfl,v7,hc7⟩;have HC7:=Lib.hid hc7;clear hc7)|(go_at_call 90;refine(getNe_calls HC7.out).mono ?_;rintro e w8 ⟨rfl,rfl⟩))
      exact⟨⟨0,p+1,v7,_,sym,rfl,Lib.hid ⟨HC7.out,HEN.out,HH.out.sok.mono (by simp),one_small HH.out.sm hpr,fun _=>by simp⟩⟩,by rw[HPA.out,HC7.out.posAt];simp[intOf];omega⟩
     ·have A1:∀wx,Ctx W0 wx base c mb mcap shape msg v cw (p:Int) (-1) sym 0→Calls Tryz.prog 169 #[.agg #[],.pointer (some ⟨c,0,none⟩)] wx fun e w'=>e= .returned .nilIface∧∃v',Ctx W0 w' base c mb mcap shape msg v' (cw++[230]) (p:Int) 1 sym 0:=fun wx hc=>asciiOne_calls (r:=1) hc hl (by omega) hlt (by omega) KK.out.h4 HR.out (by omega)
      have A1:=Lib.hid A1
      have HEN:=Lib.hid (HH.out.enc.latch (fn:=124) (x:=230) rfl hlt hl (by omega) KK.out.h4 (by simp) HR.out.symm)
      go_wp2_with (first|(go_at_call 89;refine(MO.out _ HX.out).mono ?_;rintro e w6 ⟨rfl,n6,rfl⟩)|(go_at_call 169;refine(A1.out _ (HX.out.drewN _)).mono ?_;rintro e w7 ⟨rfl,v7,hc7⟩;have HC7:=Lib.hid hc7;clear hc7)|(go_at_call 90;refine(getNe_calls HC7.out).mono ?_;rintro e w8 ⟨rfl,rfl⟩)|(go_at_call 91;refine(resetNe_calls HC7.out).mono ?_;rintro e w9 ⟨rfl,hc9⟩;have HC9:=Lib.hid hc9;clear hc9))
      exact⟨⟨1,p,v7,_,sym,rfl,Lib.hid ⟨HC9.out,HEN.out,HH.out.sok.mono (by simp),one_small HH.out.sm (by omega),fun _=>by simp⟩⟩,by rw[HPA.out,HC9.out.posAt];simp[intOf]⟩
     ·have A1:∀wx,Ctx W0 wx base c mb mcap shape msg v cw (p:Int) (-1) sym 0→Calls Tryz.prog 169 #[.agg #[],.pointer (some ⟨c,0,none⟩)] wx fun e w'=>e= .returned .nilIface∧∃v',Ctx W0 w' base c mb mcap shape msg v' (cw++[239]) (p:Int) 2 sym 0:=fun wx hc=>asciiOne_calls (r:=2) hc hl (by omega) hlt (by omega) KK.out.h4 HR.out (by omega)
      have A1:=Lib.hid A1
      have HEN:=Lib.hid (HH.out.enc.latch (fn:=125) (x:=239) rfl hlt hl (by omega) KK.out.h4 (by simp) HR.out.symm)
      go_wp2_with (first|(go_at_call 89;refine(MO.out _ HX.out).mono ?_;rintro e w6 ⟨rfl,n6,rfl⟩)|(go_at_call 169;refine(A1.out _ (HX.out.drewN _)).mono ?_;rintro e w7 ⟨rfl,v7,hc7⟩;have HC7:=Lib.hid hc7;clear hc7)|(go_at_call 90;refine(getNe_calls HC7.out).mono ?_;rintro e w8 ⟨rfl,rfl⟩)|(go_at_call 91;refine(resetNe_calls HC7.out).mono ?_;rintro e w9 ⟨rfl,hc9⟩;have HC9:=Lib.hid hc9;clear hc9))
      exact⟨⟨2,p,v7,_,sym,rfl,Lib.hid ⟨HC9.out,HEN.out,HH.out.sok.mono (by simp),one_small HH.out.sm (by omega),fun _=>by simp⟩⟩,by rw[HPA.out,HC9.out.posAt];simp[intOf]⟩
   ·subst hm
    have hne:=HH.out.ne (.inr (by decide))
    have SKT:=HH.out.enc
    have SK:=KK.out.seg (fn:=124) SKT (by simp) HH.out.sm hne
    have A2:∀wx,Ctx W0 wx base c mb mcap shape msg v cw (p:Int) (-1) sym 0→Calls Tryz.prog 203 #[.pointer (some ⟨w.heap.size,0,none⟩),.pointer (some ⟨c,0,none⟩)] wx (SegOut W0 base c mb mcap shape msg B p):=fun wx hc=>seg_calls SK.1 hc HH.out.sok SK.2 HE1.out
    have A2:=Lib.hid A2
    clear SK SKT
    go_wp2_with (first|(go_at_call 89;refine(MO.out _ HX.out).mono ?_;rintro e w6 ⟨rfl,n6,rfl⟩)|(go_at_call 203;refine(A2.out _ (HX.out.drewN _)).mono ?_;rintro e w7 ⟨rfl,v7,cw7,q7,sym7,hc7,he7,hs7,hpq7,h07,hm7⟩;have HC7:=Lib.hid hc7;have HEN:=Lib.hid he7;have HS7:=Lib.hid hs7;have HM7:=Lib.hid hm7;clear hc7 he7 hs7 hm7)|(go_at_call 90;refine(getNe_calls HC7.out).mono ?_;rintro e w8 ⟨rfl,rfl⟩)|(go_at_call 91;refine(resetNe_calls HC7.out).mono ?_;rintro e w9 ⟨rfl,hc9⟩;have HC9:=Lib.hid hc9;clear hc9))
    have hq7:=HEN.out.le
    exact⟨⟨0,q7,v7,cw7,sym7,rfl,Lib.hid ⟨HC9.out,HEN.out,HS7.out,HM7.out,fun _=>h07⟩⟩,by rw[HPA.out,HC9.out.posAt];simp[intOf];omega⟩
   ·subst hm
    have hne:=HH.out.ne (.inr (by decide))
    have SKT:=HH.out.enc
    have SK:=KK.out.seg (fn:=125) SKT (by simp) HH.out.sm hne
    have A2:∀wx,Ctx W0 wx base c mb mcap shape msg v cw (p:Int) (-1) sym 0→Calls Tryz.prog 203 #[.pointer (some ⟨w.heap.size+1,0,none⟩),.pointer (some ⟨c,0,none⟩)] wx (SegOut W0 base c mb mcap shape msg B p):=fun wx hc=>seg_calls SK.1 hc HH.out.sok SK.2 HE2.out
    have A2:=Lib.hid A2
    clear SK SKT
    go_wp2_with (first|(go_at_call 89;refine(MO.out _ HX.out).mono ?_;rintro e w6 ⟨rfl,n6,rfl⟩)|(go_at_call 203;refine(A2.out _ (HX.out.drewN _)).mono ?_;rintro e w7 ⟨rfl,v7,cw7,q7,sym7,hc7,he7,hs7,hpq7,h07,hm7⟩;have HC7:=Lib.hid hc7;have HEN:=Lib.hid he7;have HS7:=Lib.hid hs7;have HM7:=Lib.hid hm7;clear hc7 he7 hs7 hm7)|(go_at_call 90;refine(getNe_calls HC7.out).mono ?_;rintro e w8 ⟨rfl,rfl⟩)|(go_at_call 91;refine(resetNe_calls HC7.out).mono ?_;rintro e w9 ⟨rfl,hc9⟩;have HC9:=Lib.hid hc9;clear hc9))
    have hq7:=HEN.out.le
    exact⟨⟨0,q7,v7,cw7,sym7,rfl,Lib.hid ⟨HC9.out,HEN.out,HS7.out,HM7.out,fun _=>h07⟩⟩,by rw[HPA.out,HC9.out.posAt];simp[intOf];omega⟩
  ·have hdt:decide ((p:Int)<(msg.length:Int)-0)=false:=decide_eq_false (by omega)
   rw[hdt]at MO
   have MO:=Lib.hid MO
   clear hdt
   obtain rfl:mode=0:=by rcases HH.out.enc.mode with h|⟨_,h⟩|⟨_,h⟩<;>omega
   obtain⟨i,hi,hd,hg⟩:=HH.out.good KK.out (by omega)
   have h0:=HH.out.ne (.inl (by omega))
   have LK:=Lib.hid hi
   have HG:=Lib.hid hg
   have HJ:=Lib.hid (HH.out.sok.hj (Nat.le_refl _) hi)
   have hdl:=(look_le hi).2
   have hcb:=Nat.le_trans HX.out.b0 HX.out.b1
   clear hi hg e0 e1 e2 hm0 hm1
   obtain⟨g,cap,hv⟩:=HX.out.own.slice h0
   subst hv
   have hp00:((0:Nat):Int)=0:=rfl
   by_cases hfull:(cw.length:Int)<dataOf i
   ·go_upto_region 30 with(first
     |(go_at_call 89;refine(MO.out _ HX.out).mono ?_;rintro e w6 ⟨rfl,n6,rfl⟩)
     |(go_at_call 92;refine(count_calls (HX.out.drewN _) h0).mono ?_;rintro e w7 ⟨rfl,rfl⟩)
     |(go_at_call 93;refine(upd93g (HX.out.drewN _) KK.out.hs LK.out HJ.out h0).mono ?_;rintro e w8 ⟨rfl,b8,hc8⟩;have k7:w8.cell? ⟨c,7,none⟩=some (.pointer (some ⟨b8,0,none⟩)):=hc8.c7;have k1:w8.cell? ⟨b8,1,none⟩=some (.int .i64 (dataOf i)):=si_data (hc8.syms i b8 rfl);have k4:=hc8.c4;have HC8:=Lib.hid hc8;clear hc8)
     |(go_at_call 95;refine(getSym_calls k7).mono ?_;rintro e w9 ⟨rfl,rfl⟩)
     |(go_at_call 96;refine(getCap_calls k1).mono ?_;rintro e w10 ⟨rfl,rfl⟩)
     |(go_at_call 97;refine(getCw_calls k4).mono ?_;rintro e w11 ⟨rfl,rfl⟩))
    have HP0:Hid (PadI W0 w11 base c (ctxC mb msg.length mcap shape (.slice (some ⟨g,0,none⟩) cw.length cap) (p:Int) (-1) (some (i,b8)) 0) (.slice (some ⟨g,0,none⟩) cw.length cap) cw):=⟨HC8.out.own,HC8.out.below,HC8.out.blk,HC8.out.b0,HC8.out.b3⟩
    obtain⟨T,hT⟩:∃T:Nat,dataOf i=((cw.length+T:Nat):Int):=⟨(dataOf i).toNat-cw.length,by omega⟩
    have hT1:(dataOf i).toNat-cw.length=T:=by omega
    rw[hT1]at HG
    have hT2:1≤T∧cw.length+T≤1558:=by omega
    have HTT:=Lib.hid hT
    have hD:(cw.length:Int)+1≤dataOf i:=by omega
    clear k7 k1 k4 HC8 MO HX HPA HJ LK hT hT1
    obtain⟨D,hDD⟩:∃D,D=dataOf i:=⟨_,rfl⟩
    rw[←hDD]at HTT hfull hd hdl hD ⊢
    have hz11:=HP0.out.b3
    go_wp2_with (first|(refine app49G rfl (.tmp 122) (.tmp 123) rfl base _ cw rfl (HP0.out.own.alloc _) w11.heap.size 1 1 [129] rfl rfl (by decide) (Bytes.one rfl) (by simp;omega) (by simp;omega) ?_;intro u1 w12 ho12 hg12 _;have HP1:=Lib.hid (HP0.out.app hg12 ho12);clear ho12 hg12))
    go_loopw [16] (fun u wr=>∃t,1≤t∧t≤T∧Hid (PadI W0 wr base c (ctxC mb msg.length mcap shape (.slice (some ⟨g,0,none⟩) cw.length cap) (p:Int) (-1) (some (i,b8)) 0) u (cw++padsN cw.length t))) (fun u _=>(cw.length+T)-slLen u)
    case atStart=>exact⟨1,Nat.le_refl _,hT2.1,HP1⟩
    case round=>
     clear HP0 HP1 hz11
     obtain⟨t,ht1,htT,HP⟩:=hrel
     obtain⟨n,hn⟩:∃n,n=cw.length+t:=⟨_,rfl⟩
     have hlen:(cw++padsN cw.length t).length=n:=by rw[List.length_append,padsN_len,hn]
     obtain⟨g2,cap2,hu⟩:=HP.out.own.slice (by omega)
     rw[hlen]at hu
     subst hu
     have HN:=Lib.hid hn
     have HLN:=Lib.hid hlen
     have hnb:n≤1558∧1≤n:=by omega
     by_cases htl:t<T
     ·have hcond:(n:Int)<D:=by have:=HTT.out;omega
      obtain⟨z,hz⟩:∃z,z=padN (n+1):=⟨_,rfl⟩
      have hpd:padsN cw.length (t+1)=padsN cw.length t++[z]:=by rw[padsN_succ,if_neg (by omega),hz,hn]
      have HPD:=Lib.hid hpd
      have R98:∀wx,Calls Tryz.prog 98 #[.int .i64 ((n:Int)+1)] wx fun e w'=>e= .returned (.int .u8 (z:Int))∧w'=wx:=fun wx=>by rw[hz];exact rand98_calls (n+1) (by omega) (by omega) wx
      have R98:=Lib.hid R98
      have hz3:=HP.out.b3
      clear hz hpd hn hlen
      go_wp2_with (first|(go_at_call 98;refine(R98.out _).mono ?_;rintro e w13 ⟨rfl,rfl⟩)|(refine app49G rfl (.tmp 129) (.tmp 134) rfl base _ (cw++padsN cw.length t) rfl (HP.out.own.alloc _) w13.heap.size 1 1 [z] rfl rfl (by decide) (Bytes.one rfl) (by rw[HLN.out];simp;omega) (by simp;omega) ?_;intro u2 w14 ho14 hg14 _;have HP2:=HP.out.app hg14 ho14;rw[List.append_assoc,←HPD.out]at HP2;obtain⟨g3,cap3,hu3⟩:=HP2.own.slice (by simp;omega);rw[List.length_append,padsN_len]at hu3;subst hu3;have HP3:=Lib.hid HP2;clear HP2 ho14 hg14))
      exact⟨⟨t+1,by omega,by omega,HP3⟩,by have:=HN.out;simp[slLen];omega⟩
     ·obtain rfl:t=T:=by omega
      have hcond:¬(n:Int)<D:=by have:=HTT.out;omega
      obtain⟨q1,q2,q3,q4,q5⟩:=HP.out.cells hcb
      have HO:=Lib.hid q4
      have HBL:=Lib.hid q5
      have hb0:=HP.out.b0
      clear q4 q5 hn hlen
      go_wp2_with (go_at_call 97;refine(getCw_calls q3).mono ?_;rintro e w15 ⟨rfl,rfl⟩)
      go_ret2
      have hz:=HB0.out.size
      exact⟨_,i,HG.out,_,rfl,HO.out.base (by omega),HB0.out.trans (HBL.out.mono hz)⟩
   ·have he:(dataOf i).toNat-cw.length=0:=by omega
    rw[he,show padsN cw.length 0=[]from rfl,List.append_nil]at HG
    have hcond:¬(cw.length:Int)<dataOf i:=by omega
    go_wp2_with (first
     |(go_at_call 89;refine(MO.out _ HX.out).mono ?_;rintro e w6 ⟨rfl,n6,rfl⟩)
     |(go_at_call 92;refine(count_calls (HX.out.drewN _) h0).mono ?_;rintro e w7 ⟨rfl,rfl⟩)
     |(go_at_call 93;refine(upd93g (HX.out.drewN _) KK.out.hs LK.out HJ.out h0).mono ?_;rintro e w8 ⟨rfl,b8,hc8⟩;have k7:w8.cell? ⟨c,7,none⟩=some (.pointer (some ⟨b8,0,none⟩)):=hc8.c7;have k1:w8.cell? ⟨b8,1,none⟩=some (.int .i64 (dataOf i)):=si_data (hc8.syms i b8 rfl);have k4:=hc8.c4;have HC8:=Lib.hid hc8;clear hc8)
     |(go_at_call 95;refine(getSym_calls k7).mono ?_;rintro e w9 ⟨rfl,rfl⟩)
     |(go_at_call 96;refine(getCap_calls k1).mono ?_;rintro e w10 ⟨rfl,rfl⟩)
     |(go_at_call 97;refine(getCw_calls k4).mono ?_;rintro e w11 ⟨rfl,rfl⟩))
    have HPf:PadI W0 w11 base c (ctxC mb msg.length mcap shape (.slice (some ⟨g,0,none⟩) cw.length cap) (p:Int) (-1) (some (i,b8)) 0) (.slice (some ⟨g,0,none⟩) cw.length cap) cw:=⟨HC8.out.own,HC8.out.below,HC8.out.blk,HC8.out.b0,HC8.out.b3⟩
    obtain⟨q1,q2,q3,q4,q5⟩:=HPf.cells hcb
    have HO:=Lib.hid q4
    have HBL:=Lib.hid q5
    have hb0:=HPf.b0
    clear q4 q5 HPf k7 k1 k4
    refine wp_loop_rounds 1 ?_
    rw[rounds_succ]
    go_wp2_with (go_at_call 97;refine(getCw_calls q3).mono ?_;rintro e w15 ⟨rfl,rfl⟩)
    go_ret2
    have hz:=HB0.out.size
    exact⟨_,i,HG.out,_,rfl,HO.out.base (by omega),HB0.out.trans (HBL.out.mono hz)⟩
end
end
end Go.Proofs.YtcnallabiffemaaGreatDoor
