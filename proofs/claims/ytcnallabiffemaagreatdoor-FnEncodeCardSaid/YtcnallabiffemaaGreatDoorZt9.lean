/- The C40 encoder: the state of its loop, and what a character makes of it. -/
import Derived.Test.YtcnallabiffemaaGreatDoorZv
set_option linter.unusedVariables false
set_option linter.unusedSimpArgs false
namespace Go.Proofs.YtcnallabiffemaaGreatDoor
section
open Go.RowKit
structure SegK (fn:Nat) (msg:List Nat) (shape B p:Nat) (cw:List Nat):Prop where
 hf:fn=124∨fn=125
 h4:∀i,i<msg.length→clsOf (msg.getD i 0)<4
 hp:p+3≤msg.length
 hl:msg.length≤1000
 hs:shape<3
 hB:B≤1304
 hlook:∀k,k≤B→∃i,lookSym (k:Int) shape=some i
 hrun:∀n,Run 0 (msg.map clsOf) n→n≤B
 h0:0<cw.length
 hcw:cw.length≤B
 sm:∀x∈cw,x<256
 rd:RdS fn msg cw p
def SegOut (w0:World) (base c mb mcap shape:Nat) (msg:List Nat) (B p:Nat) (e:Ending) (w':World):Prop:=
 e= .returned .nilIface∧∃v' cw' q sym',Ctx w0 w' base c mb mcap shape msg v' cw' ((q:Nat):Int) 0 sym' 0∧Enc msg shape B 0 q cw'∧SymOk shape cw'.length sym'∧p<q∧0<cw'.length∧∀x∈cw',x<256
theorem trips_small:∀(n:Nat) (xs:List Nat),xs.length≤n→(∀x∈xs,x<40)→∀x∈trips xs,x<256
 |_,[],_,_,x,hx=>by simp[trips]at hx
 |_,[_],_,_,x,hx=>by simp[trips]at hx
 |_,[_,_],_,_,x,hx=>by simp[trips]at hx
 |0,_::_::_::_,h,_,_,_=>by simp at h
 |n+1,a::b::d::xs,hn,h,x,hx=>by
  simp only[trips,cw3,List.cons_append,List.nil_append,List.mem_cons]at hx
  have ha:=h a (by simp)
  have hb:=h b (by simp)
  have hd:=h d (by simp)
  rcases hx with rfl|rfl|hx
  ·omega
  ·omega
  ·exact trips_small n xs (by simp at hn;omega) (fun y hy=>h y (by simp[hy])) x hx
section
variable {w0 w:World} {base c mb mcap shape:Nat} {msg:List Nat} {v:Value} {cw:List Nat} {pos ne:Int} {sym:Option (Nat×Nat)} {fn B p g cap bb i:Nat}
theorem EodPost.seg {cw':List Nat} {pos':Int} {e:Ending} {w':World} (h:EodPost w0 base c mb mcap shape msg cw' pos' i e w') {q k:Nat} (hq:pos'=(q:Int)) (hE:Enc msg shape B 0 q cw') (hk:k≤cw'.length) (hi:lookSym (k:Int) shape=some i)
 (hpq:p<q) (h0:0<cw'.length) (hs:∀x∈cw',x<256):SegOut w0 base c mb mcap shape msg B p e w':=by
 subst hq
 obtain⟨he,v',b',hc⟩:=h
 exact⟨he,v',cw',q,_,hc,hE,(SymOk.some hi).mono hk,hpq,h0,hs⟩
theorem flat_lt {xs:List Nat} (h:∀x∈xs,x<40):∀j,j<xs.length→xs.getD j 0<40:=fun j hj=>by
 rw[List.getD_eq_getElem?_getD,List.getElem?_eq_getElem hj,Option.getD_some]
 exact h _ (List.getElem_mem hj)
structure Buf (w:World) (c:Nat) (v:Value) (base bb g cap:Nat) (xs:List Nat):Prop where
 own:Own w bb .u8 5 (.slice (some ⟨g,0,none⟩) xs.length cap) xs
 hbb:base≤bb
 hbs:bb≤w.heap.size
 hg:g≠c
 hv:v.ownBlock≠some g
theorem small_end {xs:List Nat} (hsm:∀x∈cw,x<256) (hx:∀x∈xs,x<40) (tl:List Nat) (ht:tl=[254]∨tl=[]):∀x∈cw++trips xs++tl,x<256:=by
 intro x h
 rcases List.mem_append.1 h with h|h
 ·rcases List.mem_append.1 h with h|h
  ·exact hsm x h
  ·exact trips_small _ xs (Nat.le_refl _) hx x h
 ·rcases ht with rfl|rfl
  ·simp at h;omega
  ·simp at h
theorem d_lt {d xs:List Nat} (hd:d=[]∨d=[0]∨d=[2]) (hx:∀x∈xs,x<40):∀x∈xs++d,x<40:=by
 intro x h
 rcases List.mem_append.1 h with h|h
 ·exact hx x h
 ·rcases hd with rfl|rfl|rfl<;>simp at h<;>omega
theorem ready_exit {q:Nat} (K:SegK fn msg shape B p cw) (h:Ctx w0 w base c mb mcap shape msg v cw (q:Int) ne sym 0) (hs:SymOk shape (cw.length+2*((flatV fn (segC msg p q)).length/3)) sym) (hb:Buf w c v base bb g cap (flatV fn (segC msg p q)))
 (hpq:p<q) (hq:q<msg.length) (h3:(flatV fn (segC msg p q)).length%3=0) (ht:Tot (msg.map clsOf) 0 q (cw.length+2*((flatV fn (segC msg p q)).length/3)+1)):
 Calls Tryz.prog 206 #[.pointer (some ⟨c,0,none⟩),.slice (some ⟨g,0,none⟩) (flatV fn (segC msg p q)).length cap] w (SegOut w0 base c mb mcap shape msg B p):=by
 have hx:=flatV_lt K.hf (segC_mem (p:=p) (q:=q) K.h4)
 have hln:=flat_pos (p:=p) K.hf K.h4 q (by omega) (by omega)
 have hE:=Enc.exit (shape:=shape) (B:=B) K.rd K.hf K.h4 (by omega) (by omega) h3 ht
 have hbd:=ht.bound (by simpa using K.hl) (.inl rfl) K.hrun
 obtain⟨i,hi⟩:=K.hlook (cw.length+2*((flatV fn (segC msg p q)).length/3)) (by omega)
 have hcp:=hb.own.cap_le
 have hl:=K.hl
 have hB:=K.hB
 have hc:=K.hcw
 have hm:maxLen≤9223372036854775807:=by decide
 generalize flatV fn (segC msg p q)=xs at*
 refine(eod0_calls (i:=i) h hb.own.bytes hb.hg hb.hv hcp.1 (by omega) (flat_lt hx) K.h0 (by omega) (by omega) K.hs hi (hs.hj (Nat.le_refl _) hi) h3).mono fun e w' h=>?_
 rw[if_pos (Or.inr (by omega))]at h
 exact h.seg rfl hE (by rw[List.length_append,List.length_append,trips_len _ _ (Nat.le_refl _)];omega) hi hpq (by simp<;>omega) (small_end K.sm hx _ (.inl rfl))
theorem ready0 {q:Nat} {d xs:List Nat} (K:SegK fn msg shape B p cw) (h:Ctx w0 w base c mb mcap shape msg v cw (q:Int) ne sym 0) (hxs:xs=flatV fn (segC msg p q)++d) (hd:d=[]∨d=[0]∨d=[2]) (hs:SymOk shape (cw.length+2*(xs.length/3)) sym) (hb:Buf w c v base bb g cap xs)
 (hpq:p<q) (hq:q<msg.length) (hq2:msg.length≤q+2) (h3:xs.length%3=0) (hbd:cw.length+2*(xs.length/3)+1+(msg.length-q)≤B):
 Calls Tryz.prog 206 #[.pointer (some ⟨c,0,none⟩),.slice (some ⟨g,0,none⟩) xs.length cap] w (SegOut w0 base c mb mcap shape msg B p):=by
 have hx:∀x∈xs,x<40:=hxs▸d_lt hd (flatV_lt K.hf (segC_mem (p:=p) (q:=q) K.h4))
 have hE:Enc msg shape B 0 q (cw++trips xs++[254]):=by
  subst hxs;exact Enc.cutA K.rd K.hf K.h4 (by omega) (by omega) hq2 hd h3 hbd
 obtain⟨i,hi⟩:=K.hlook (cw.length+2*(xs.length/3)) (by omega)
 have hcp:=hb.own.cap_le
 have hl:=K.hl
 have hB:=K.hB
 have hm:maxLen≤9223372036854775807:=by decide
 refine(eod0_calls (i:=i) h hb.own.bytes hb.hg hb.hv hcp.1 (by omega) (flat_lt hx) K.h0 (by omega) (by omega) K.hs hi (hs.hj (Nat.le_refl _) hi) h3).mono fun e w' h=>?_
 rw[if_pos (Or.inr (by omega))]at h
 exact h.seg rfl hE (by rw[List.length_append,List.length_append,trips_len _ _ (Nat.le_refl _)];omega) hi hpq (by simp<;>omega) (small_end K.sm hx _ (.inl rfl))
theorem ready0n {xs:List Nat} (K:SegK fn msg shape B p cw) (h:Ctx w0 w base c mb mcap shape msg v cw (msg.length:Int) ne sym 0) (hxs:xs=flatV fn (segC msg p msg.length)) (hs:SymOk shape (cw.length+2*(xs.length/3)) sym) (hb:Buf w c v base bb g cap xs)
 (h3:xs.length%3=0) (hbd:cw.length+2*(xs.length/3)+1≤B):
 Calls Tryz.prog 206 #[.pointer (some ⟨c,0,none⟩),.slice (some ⟨g,0,none⟩) xs.length cap] w (SegOut w0 base c mb mcap shape msg B p):=by
 have hx:∀x∈xs,x<40:=hxs▸flatV_lt K.hf (segC_mem (p:=p) (q:=msg.length) K.h4)
 have hp:=K.hp
 have hxa:xs=flatV fn (segC msg p msg.length)++[]:=by rw[List.append_nil];exact hxs
 obtain⟨i,hi⟩:=K.hlook (cw.length+2*(xs.length/3)) (by omega)
 have hE1:Enc msg shape B 0 msg.length (cw++trips xs++[254]):=by
  rw[hxa];rw[hxa]at h3 hbd
  exact Enc.cutA K.rd K.hf K.h4 (by omega) (Nat.le_refl _) (by omega) (.inl rfl) h3 (by omega)
 have hE2:dataOf i=((cw.length+2*(xs.length/3):Nat):Int)→Enc msg shape B 0 msg.length (cw++trips xs):=by
  intro he
  have hi2:=hi
  rw[hxa]at h3 hbd hi2 he ⊢
  exact Enc.cutB K.rd K.hf K.h4 (by omega) (.inl rfl) h3 (by omega) hi2 he
 have hcp:=hb.own.cap_le
 have hln:=flat_pos (p:=p) K.hf K.h4 msg.length (by omega) (by omega)
 rw[←hxs]at hln
 have hl:=K.hl
 have hB:=K.hB
 have hle:=(look_le hi).1
 have hm:maxLen≤9223372036854775807:=by decide
 refine(eod0_calls (i:=i) h hb.own.bytes hb.hg hb.hv hcp.1 (by omega) (flat_lt hx) K.h0 (by omega) (by omega) K.hs hi (hs.hj (Nat.le_refl _) hi) h3).mono fun e w' h=>?_
 by_cases ha:0<dataOf i-((cw.length+2*(xs.length/3):Nat):Int)
 ·rw[if_pos (Or.inl ha)]at h
  exact h.seg rfl hE1 (by rw[List.length_append,List.length_append,trips_len _ _ (Nat.le_refl _)];omega) hi (by omega) (by simp<;>omega) (small_end K.sm hx _ (.inl rfl))
 ·rw[if_neg (by omega),List.append_nil]at h
  have hsm:=small_end K.sm hx [] (.inr rfl)
  rw[List.append_nil]at hsm
  exact h.seg rfl (hE2 (by omega)) (by rw[List.length_append,trips_len _ _ (Nat.le_refl _)];omega) hi (by omega) (by have:=K.h0;simp;omega) hsm
theorem ready2 {xs:List Nat} (K:SegK fn msg shape B p cw) (h:Ctx w0 w base c mb mcap shape msg v cw (msg.length:Int) ne sym 0) (hxs:xs=flatV fn (segC msg p msg.length)) (hs:SymOk shape (cw.length+2*(xs.length/3)) sym) (hb:Buf w c v base bb g cap xs)
 (h3:xs.length%3=2) (hbd:cw.length+2*(xs.length/3)+3≤B) (hi:lookSym ((cw.length+2*(xs.length/3):Nat):Int) shape=some i) (ha:dataOf i-((cw.length+2*(xs.length/3):Nat):Int)=2):
 Calls Tryz.prog 206 #[.pointer (some ⟨c,0,none⟩),.slice (some ⟨g,0,none⟩) xs.length cap] w (SegOut w0 base c mb mcap shape msg B p):=by
 have hx:∀x∈xs,x<40:=hxs▸flatV_lt K.hf (segC_mem (p:=p) (q:=msg.length) K.h4)
 have hp:=K.hp
 have e3:(xs++[0]).length=xs.length+1:=by simp
 have hE:Enc msg shape B 0 msg.length (cw++trips (xs++[0])):=by
  have h3':(xs++[0]).length%3=0:=by omega
  have hb':cw.length+2*((xs++[0]).length/3)≤B:=by omega
  have hl':lookSym ((cw.length+2*((xs++[0]).length/3):Nat):Int) shape=some i:=look_mono hi (by omega) (by omega)
  have hd':dataOf i=((cw.length+2*((xs++[0]).length/3):Nat):Int):=by omega
  rw[hxs]at h3' hb' hl' hd' ⊢
  exact Enc.cutB K.rd K.hf K.h4 (by omega) (.inr (.inl rfl)) h3' hb' hl' hd'
 have hcp:=hb.own.cap_le
 have hln:=flat_pos (p:=p) K.hf K.h4 msg.length (by omega) (by omega)
 rw[←hxs]at hln
 have hl:=K.hl
 have hB:=K.hB
 refine(eod2_calls (i:=i) h hb.own hb.hbb hb.hbs hb.hg hb.hv (flat_lt hx) K.h0 (by omega) (by omega) K.hs hi (hs.hj (Nat.le_refl _) hi) h3).mono fun e w' h=>?_
 rw[if_neg (by omega),List.append_nil]at h
 have hsm:=small_end K.sm (d_lt (.inr (.inl rfl)) hx) [] (.inr rfl)
 rw[List.append_nil]at hsm
 exact h.seg rfl hE (by rw[List.length_append,trips_len _ _ (Nat.le_refl _)];omega) hi (by omega) (by have:=K.h0;simp;omega) hsm
theorem ready2b {q:Nat} {xs:List Nat} (K:SegK fn msg shape B p cw) (h:Ctx w0 w base c mb mcap shape msg v cw (q:Int) ne sym 0) (hxs:xs=flatV fn (segC msg p q)) (hs:SymOk shape (cw.length+2*(xs.length/3)) sym) (hb:Buf w c v base bb g cap xs)
 (hq:q+1=msg.length) (h3:xs.length%3=2) (hbd:cw.length+2*(xs.length/3)+4≤B):
 Calls Tryz.prog 206 #[.pointer (some ⟨c,0,none⟩),.slice (some ⟨g,0,none⟩) xs.length cap] w (SegOut w0 base c mb mcap shape msg B p):=by
 have hx:∀x∈xs,x<40:=hxs▸flatV_lt K.hf (segC_mem (p:=p) (q:=q) K.h4)
 have hp:=K.hp
 have e3:(xs++[0]).length=xs.length+1:=by simp
 have hE:Enc msg shape B 0 q (cw++trips (xs++[0])++[254]):=by
  have h3':(xs++[0]).length%3=0:=by omega
  have hb':cw.length+2*((xs++[0]).length/3)+1+(msg.length-q)≤B:=by omega
  rw[hxs]at h3' hb' ⊢
  exact Enc.cutA K.rd K.hf K.h4 (by omega) (by omega) (by omega) (.inr (.inl rfl)) h3' hb'
 obtain⟨i,hi⟩:=K.hlook (cw.length+2*(xs.length/3)) (by omega)
 have hcp:=hb.own.cap_le
 have hln:=flat_pos (p:=p) K.hf K.h4 q (by omega) (by omega)
 rw[←hxs]at hln
 have hl:=K.hl
 have hB:=K.hB
 refine(eod2_calls (i:=i) h hb.own hb.hbb hb.hbs hb.hg hb.hv (flat_lt hx) K.h0 (by omega) (by omega) K.hs hi (hs.hj (Nat.le_refl _) hi) h3).mono fun e w' h=>?_
 rw[if_pos (by omega)]at h
 exact h.seg rfl hE (by rw[List.length_append,List.length_append,trips_len _ _ (Nat.le_refl _)];omega) hi (by omega) (by simp<;>omega) (small_end K.sm (d_lt (.inr (.inl rfl)) hx) _ (.inl rfl))
theorem take_cut {q:Nat} {xs:List Nat} (hf:fn=124∨fn=125) (h4:∀i,i<msg.length→clsOf (msg.getD i 0)<4) (hpq:p≤q) (hq:q<msg.length) (hxs:xs=flatV fn (segC msg p (q+1))) (h3:xs.length%3=1):
 ∃d,(d=[]∨d=[0]∨d=[2])∧xs.take (3*(xs.length/3))=flatV fn (segC msg p q)++d:=by
 obtain⟨d,hd,e⟩:=drop_last (fn:=fn) hf hpq hq (h4 q hq)
 refine⟨d,hd,?_⟩
 rw[←e,←hxs]
 congr 1;omega
theorem ready1 {xs:List Nat} (K:SegK fn msg shape B p cw) (h:Ctx w0 w base c mb mcap shape msg v cw (msg.length:Int) ne sym 0) (hxs:xs=flatV fn (segC msg p msg.length)) (hs:SymOk shape (cw.length+2*(xs.length/3)) sym) (hb:Buf w c v base bb g cap xs)
 (h3:xs.length%3=1) (hbd:cw.length+2*(xs.length/3)+2≤B) (hi:lookSym ((cw.length+2*(xs.length/3):Nat):Int) shape=some i) (ha:dataOf i-((cw.length+2*(xs.length/3):Nat):Int)=1):
 Calls Tryz.prog 206 #[.pointer (some ⟨c,0,none⟩),.slice (some ⟨g,0,none⟩) xs.length cap] w (SegOut w0 base c mb mcap shape msg B p):=by
 have hx:∀x∈xs,x<40:=hxs▸flatV_lt K.hf (segC_mem (p:=p) (q:=msg.length) K.h4)
 have hp:=K.hp
 obtain⟨q,hq⟩:∃q,q+1=msg.length:=⟨msg.length-1,by omega⟩
 obtain⟨d,hd,e⟩:=take_cut (q:=q) K.hf K.h4 (p:=p) (by omega) (by omega) (by rw[hq];exact hxs) h3
 have e3:(xs.take (3*(xs.length/3))).length=3*(xs.length/3):=by rw[List.length_take];omega
 have hx2:∀x∈xs.take (3*(xs.length/3)),x<40:=fun x h=>hx x (List.mem_of_mem_take h)
 have hE:Enc msg shape B 0 q (cw++trips (xs.take (3*(xs.length/3)))):=by
  have h3':(xs.take (3*(xs.length/3))).length%3=0:=by omega
  have hb':cw.length+2*((xs.take (3*(xs.length/3))).length/3)+1≤B:=by omega
  have e4:(xs.take (3*(xs.length/3))).length/3=xs.length/3:=by omega
  have hl':lookSym ((cw.length+2*((xs.take (3*(xs.length/3))).length/3):Nat):Int) shape=some i:=by rw[e4];exact hi
  have hd':dataOf i=((cw.length+2*((xs.take (3*(xs.length/3))).length/3)+1:Nat):Int):=by rw[e4];omega
  rw[e]at h3' hb' hl' hd' ⊢
  exact Enc.cutC K.rd K.hf K.h4 (by omega) hq hd h3' hb' hl' hd'
 have hcp:=hb.own.cap_le
 have hln:=flat_pos (p:=p) K.hf K.h4 msg.length (by omega) (by omega)
 rw[←hxs]at hln
 have hl:=K.hl
 have hB:=K.hB
 have hm:maxLen≤9223372036854775807:=by decide
 refine(eod1_calls (i:=i) h hb.own.bytes hb.hg hb.hv hcp.1 (by omega) (flat_lt hx) K.h0 (by omega) (by omega) K.hs hi (hs.hj (Nat.le_refl _) hi) h3 ha (by omega) (by omega)).mono fun e w' h=>?_
 rw[if_neg (by omega),List.append_nil]at h
 have hsm:=small_end K.sm hx2 [] (.inr rfl)
 rw[List.append_nil]at hsm
 exact h.seg (by omega) hE (by rw[List.length_append,trips_len _ _ (Nat.le_refl _)];omega) hi (by omega) (by have:=K.h0;simp;omega) hsm
theorem ready1b {q:Nat} {xs:List Nat} (K:SegK fn msg shape B p cw) (h:Ctx w0 w base c mb mcap shape msg v cw ((q+1:Nat):Int) ne sym 0) (hxs:xs=flatV fn (segC msg p (q+1))) (hs:SymOk shape (cw.length+2*(xs.length/3)) sym) (hb:Buf w c v base bb g cap xs)
 (hq:q+2=msg.length) (h3:xs.length%3=1) (hbd:cw.length+2*(xs.length/3)+3≤B) (hi:lookSym ((cw.length+2*(xs.length/3):Nat):Int) shape=some i) (ha:dataOf i-((cw.length+2*(xs.length/3):Nat):Int)=1):
 Calls Tryz.prog 206 #[.pointer (some ⟨c,0,none⟩),.slice (some ⟨g,0,none⟩) xs.length cap] w (SegOut w0 base c mb mcap shape msg B p):=by
 have hx:∀x∈xs,x<40:=hxs▸flatV_lt K.hf (segC_mem (p:=p) (q:=q+1) K.h4)
 have hp:=K.hp
 obtain⟨d,hd,e⟩:=take_cut (q:=q) K.hf K.h4 (p:=p) (by omega) (by omega) hxs h3
 have e3:(xs.take (3*(xs.length/3))).length=3*(xs.length/3):=by rw[List.length_take];omega
 have hx2:∀x∈xs.take (3*(xs.length/3)),x<40:=fun x h=>hx x (List.mem_of_mem_take h)
 have hE:Enc msg shape B 0 q (cw++trips (xs.take (3*(xs.length/3)))++[254]):=by
  have h3':(xs.take (3*(xs.length/3))).length%3=0:=by omega
  have hb':cw.length+2*((xs.take (3*(xs.length/3))).length/3)+1+(msg.length-q)≤B:=by omega
  rw[e]at h3' hb' ⊢
  exact Enc.cutA K.rd K.hf K.h4 (by omega) (by omega) (by omega) hd h3' hb'
 have hcp:=hb.own.cap_le
 have hln:=flat_pos (p:=p) K.hf K.h4 (q+1) (by omega) (by omega)
 rw[←hxs]at hln
 have hl:=K.hl
 have hB:=K.hB
 have hm:maxLen≤9223372036854775807:=by decide
 refine(eod1_calls (i:=i) h hb.own.bytes hb.hg hb.hv hcp.1 (by omega) (flat_lt hx) K.h0 (by omega) (by omega) K.hs hi (hs.hj (Nat.le_refl _) hi) h3 ha (by omega) (by omega)).mono fun e w' h=>?_
 rw[if_pos (by omega)]at h
 exact h.seg (by omega) hE (by rw[List.length_append,List.length_append,trips_len _ _ (Nat.le_refl _)];omega) hi (by omega) (by simp<;>omega) (small_end K.sm hx2 _ (.inl rfl))
end
end
section
open Go.RowKit
section
variable {w0 w:World} {base c mb mcap shape:Nat} {msg:List Nat} {v:Value} {cw:List Nat} {pos ne:Int} {sym:Option (Nat×Nat)} {skip:Int} {fn B p g cap bb i:Nat}
theorem Ctx.gr (h:Ctx w0 w base c mb mcap shape msg v cw pos ne sym skip) {u u':Value} {bb:Nat} {w':World} (hb:Below bb w w') (hg:Gr w w' u u') (h1:base≤bb)
 (hu:∀k,u.ownBlock=some k→k≠c∧v.ownBlock≠some k∧k≠mb∧∀i b,sym=some (i,b)→b≠k):Ctx w0 w' base c mb mcap shape msg v cw pos ne sym skip:=
 ⟨(hg.1 c (lt_of_some h.blk) (fun e=>(hu c e).1 rfl)).trans h.blk,h.own.of_block (fun k e=>hg.1 k (h.own.lt k e).2 (fun e2=>(hu k e2).2.1 e)),
  ⟨Nat.lt_of_lt_of_le h.byt.1 hg.2.1,fun i hi=>(World.cell?_of_block (w:=w) (a:=⟨mb,i,none⟩) (hg.1 mb h.byt.1 (fun e=>(hu mb e).2.2.1 rfl))).trans (h.byt.2 i hi)⟩,
  h.below.trans (hb.mono (Nat.le_trans h.b0 h1)),h.b0,h.b1,h.b2,Nat.le_trans h.b3 hg.2.1,
  fun i b e=>(hg.1 b (lt_of_some (h.syms i b e)) (fun e2=>(hu b e2).2.2.2 i b e rfl)).trans (h.syms i b e)⟩
structure SegI (fn:Nat) (w0 wr:World) (base c mb mcap shape:Nat) (msg:List Nat) (v:Value) (cw:List Nat) (ne:Int) (p bb q:Nat) (u:Value) (sym:Option (Nat×Nat)):Prop where
 ctx:Ctx w0 wr base c mb mcap shape msg v cw (q:Int) ne sym 0
 sok:SymOk shape (cw.length+2*((flatV fn (segC msg p q)).length/3)) sym
 own:Own wr bb .u8 5 u (flatV fn (segC msg p q))
 tot:Tot (msg.map clsOf) (kb fn+(flatV fn (segC msg p q)).length%3) q (cw.length+2*((flatV fn (segC msg p q)).length/3))
 hbs:bb≤wr.heap.size
 hpq:p≤q
 hq:q<msg.length
structure SegB (base c bb:Nat) (v:Value):Prop where
 b1:base≤bb
 b2:c<bb
 b3:∀k,v.ownBlock=some k→k<bb
theorem segC_self (msg:List Nat) (p:Nat):segC msg p p=[]:=by unfold segC;exact List.drop_eq_nil_of_le (by simp;omega)
theorem lk_nil {fn:Nat} (hf:fn=124∨fn=125):lkTest (mo fn) []=mo fn:=by rcases hf with rfl|rfl<;>decide+kernel
theorem seg_next {q:Nat} (K:SegK fn msg shape B p cw) (hpq:p≤q) (hq:q<msg.length) (ht:Tot (msg.map clsOf) (kb fn+(flatV fn (segC msg p q)).length%3) q (cw.length+2*((flatV fn (segC msg p q)).length/3))):
 cw.length+2*((flatV fn (segC msg p (q+1))).length/3)≤B∧
 (((flatV fn (segC msg p (q+1))).length%3≠0∨lkTest (mo fn) ((msg.drop (q+1)).map clsOf)=mo fn)→Tot (msg.map clsOf) (kb fn+(flatV fn (segC msg p (q+1))).length%3) (q+1) (cw.length+2*((flatV fn (segC msg p (q+1))).length/3)))∧
 ((flatV fn (segC msg p (q+1))).length%3=0→lkTest (mo fn) ((msg.drop (q+1)).map clsOf)≠mo fn→Tot (msg.map clsOf) 0 (q+1) (cw.length+2*((flatV fn (segC msg p (q+1))).length/3)+1)):=by
 have hx:=vals_len K.hf (K.h4 q hq)
 have hm:=map_getD (msg:=msg) hq
 obtain⟨L,hL⟩:∃L,L=(flatV fn (segC msg p q)).length:=⟨_,rfl⟩
 obtain⟨x,hxx⟩:∃x,x=xv fn (clsOf (msg.getD q 0)):=⟨_,rfl⟩
 have e1:(flatV fn (segC msg p (q+1))).length=L+x:=by rw[flatV_snoc hpq hq,List.length_append,hx,hL,hxx]
 rw[e1]
 rw[←hL]at ht
 have hlen:q<(msg.map clsOf).length:=by simpa using hq
 have hl:(msg.map clsOf).length≤1000:=by simpa using K.hl
 have e2:(msg.drop (q+1)).map clsOf=(msg.map clsOf).drop (q+1):=List.map_drop
 rw[e2]
 have h1:∀(h3:(L+x)%3≠0),Tot (msg.map clsOf) (kb fn+(L+x)%3) (q+1) (cw.length+2*((L+x)/3)):=fun h3=>by
  have h:=ht.mid K.hf (Nat.mod_lt _ (by decide)) hlen (by rw[hm,←hxx];omega)
  rw[hm,←hxx]at h
  rw[show (L+x)%3=(L%3+x)%3 by omega,show cw.length+2*((L+x)/3)=cw.length+2*(L/3)+2*((L%3+x)/3) by omega]
  exact h
 have h2:∀(h3:(L+x)%3=0) (hk:lkTest (mo fn) ((msg.map clsOf).drop (q+1))=mo fn),Tot (msg.map clsOf) (kb fn+(L+x)%3) (q+1) (cw.length+2*((L+x)/3)):=fun h3 hk=>by
  have h:=ht.on K.hf (Nat.mod_lt _ (by decide)) hlen hl (by rw[hm,←hxx];omega) hk
  rw[hm,←hxx]at h
  rw[h3,show cw.length+2*((L+x)/3)=cw.length+2*(L/3)+2*((L%3+x)/3) by omega]
  exact h
 have h4:∀(h3:(L+x)%3=0) (hk:lkTest (mo fn) ((msg.map clsOf).drop (q+1))≠mo fn),Tot (msg.map clsOf) 0 (q+1) (cw.length+2*((L+x)/3)+1):=fun h3 hk=>by
  have h:=ht.off K.hf (Nat.mod_lt _ (by decide)) hlen hl (by rw[hm,←hxx];omega) hk
  rw[hm,←hxx]at h
  rw[show cw.length+2*((L+x)/3)=cw.length+2*(L/3)+2*((L%3+x)/3) by omega]
  exact h
 refine⟨?_,fun h=>?_,h4⟩
 ·by_cases h3:(L+x)%3=0
  ·by_cases hk:lkTest (mo fn) ((msg.map clsOf).drop (q+1))=mo fn
   ·exact(h2 h3 hk).bound hl (kb_key K.hf (Nat.mod_lt _ (by decide))) K.hrun
   ·have:=(h4 h3 hk).bound hl (.inl rfl) K.hrun;omega
  ·exact(h1 h3).bound hl (kb_key K.hf (Nat.mod_lt _ (by decide))) K.hrun
 ·by_cases h3:(L+x)%3=0
  ·exact h2 h3 (h.resolve_left (fun h=>h h3))
  ·exact h1 h3
theorem seg_last {q:Nat} (K:SegK fn msg shape B p cw) (hpq:p≤q) (hq:q+1=msg.length) (ht:Tot (msg.map clsOf) (kb fn+(flatV fn (segC msg p q)).length%3) q (cw.length+2*((flatV fn (segC msg p q)).length/3))):
 cw.length+2*((flatV fn (segC msg p (q+1))).length/3)+(flatV fn (segC msg p (q+1))).length%3+1≤B:=by
 have h:=(seg_next K hpq (by omega) ht).2.1 (.inr (by rw[List.drop_eq_nil_of_le (by omega)];exact lk_nil K.hf))
 exact h.fin K.hf (Nat.mod_lt _ (by decide)) (by simp;omega) K.hrun
def CharOut (bb:Nat) (w:World) (u:Value) (s L:Nat) (xs:List Nat) (e:Ending) (w':World):Prop:=
 ∃g cap,e= .returned (.tuple #[.int .i64 s,.slice (some ⟨g,0,none⟩) L cap])∧Own w' bb .u8 5 (.slice (some ⟨g,0,none⟩) L cap) xs∧Below bb w w'∧Gr w w' u (.slice (some ⟨g,0,none⟩) L cap)
theorem char2_calls {fn bb q s L:Nat} {u:Value} {xs:List Nat} {w:World} (hf:fn=124∨fn=125) (h4:∀i,i<msg.length→clsOf (msg.getD i 0)<4) (hpq:p≤q) (hq:q<msg.length) (hl:msg.length≤1000) (ho:Own w bb .u8 5 u (flatV fn (segC msg p q))) (hb:bb≤w.heap.size)
 (hs:s=(valsOf fn (msg.getD q 0)).length) (hx:xs=flatV fn (segC msg p (q+1))) (hL:L=xs.length):
 Calls Tryz.prog fn #[.int .u8 ((msg.getD q 0:Nat):Int),u] w (CharOut bb w u s L xs):=by
 have hln:=flat_pos (p:=p) hf h4 q hpq (by omega)
 refine(chars_calls hf ho hb (by omega) (h4 q hq)).mono ?_
 rintro e w' ⟨v',rfl,h1,h2,h3⟩
 rw[←flatV_snoc hpq hq,←hx]at h1
 have hp:=flat_pos (p:=p) hf h4 (q+1) (by omega) (by omega)
 obtain⟨g,cap,rfl⟩:=h1.slice (by rw[hx];omega)
 rw[←hL]at h1 h3
 exact⟨g,cap,by rw[hs,hL],h1,h2,h3⟩
theorem SegI.next {q:Nat} {wr w':World} {u:Value} {sym:Option (Nat×Nat)} (hI:SegI fn w0 wr base c mb mcap shape msg v cw ne p bb q u sym) (K:SegK fn msg shape B p cw) {j b:Nat} (hc:Ctx w0 w' base c mb mcap shape msg v cw ((q+1:Nat):Int) ne (some (j,b)) 0)
 (hj:lookSym ((cw.length+2*((flatV fn (segC msg p (q+1))).length/3):Nat):Int) shape=some j) {u':Value} (ho:Own w' bb .u8 5 u' (flatV fn (segC msg p (q+1)))) (hz:bb≤w'.heap.size) (hq:q+1<msg.length)
 (h:(flatV fn (segC msg p (q+1))).length%3≠0∨lkTest (mo fn) ((msg.drop (q+1)).map clsOf)=mo fn):SegI fn w0 w' base c mb mcap shape msg v cw ne p bb (q+1) u' (some (j,b)):=
 ⟨hc,SymOk.some hj,ho,(seg_next K hI.hpq hI.hq hI.tot).2.1 h,hz,Nat.le_succ_of_le hI.hpq,hq⟩
end
end
end Go.Proofs.YtcnallabiffemaaGreatDoor
