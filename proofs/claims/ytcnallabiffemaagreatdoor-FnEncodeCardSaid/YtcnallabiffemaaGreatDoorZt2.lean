/- The C40 encoder at the end of its data: whole triplets. -/
import Derived.Test.YtcnallabiffemaaGreatDoorZt1
import Derived.BigQuiet
import Derived.Deep.AppendLies
import Derived.Deep.CutRange
set_option linter.unusedVariables false
set_option linter.unusedSimpArgs false
namespace Go.Proofs.YtcnallabiffemaaGreatDoor
section
open Go.RowKit
section
variable {w0 w:World} {base c mb mcap shape:Nat} {msg:List Nat} {v:Value} {cw:List Nat} {pos ne:Int} {sym:Option (Nat×Nat)} {skip:Int}
theorem Ctx.noSym (h:Ctx w0 w base c mb mcap shape msg v cw pos ne sym skip):Ctx w0 (w.setCell ⟨c,7,none⟩ (.pointer none)) base c mb mcap shape msg v cw pos ne none skip:=
 ⟨by rw[heap_setCell_at h.blk];rfl,h.own.set_ne (fun hg=>h.ne_c _ hg rfl) _,h.byt.set_ne (by have:=h.b1;have:=h.b2;simp;omega) _,h.below.setCell (by have:=h.b0;have:=h.b1;simp;omega) _,h.b0,h.b1,h.b2,
   by have:=h.b3;simpa[World.setCell]using this,fun i b e=>by cases e⟩
theorem resetSym_calls (h:Ctx w0 w base c mb mcap shape msg v cw pos ne sym skip):
 Calls Tryz.prog 207 #[.pointer (some ⟨c,0,none⟩)] w fun e w'=>e= .returned (.tuple #[])∧Ctx w0 w' base c mb mcap shape msg v cw pos ne none skip:=by
 have k7:=h.c7
 have f7:=frozen_blk h.blk 7
 have HN:=Lib.hid h.noSym
 clear h
 go_enter Tryz.func207,Tryz.ntmps207
 go_wp2
 go_end0
 exact⟨rfl,HN.out⟩
theorem mode204_calls {w:World} {eb:Nat} {m:Int} (h:w.cell? ⟨eb,0,none⟩=some (.int .i64 m)):
 Calls Tryz.prog 204 #[.pointer (some ⟨eb,0,none⟩)] w fun e w'=>e= .returned (.int .i64 m)∧w'=w:=by
 go_enter Tryz.func204,Tryz.ntmps204
 go_wp2
 go_ret
 exact⟨rfl,rfl⟩
theorem Bytes.two {w:World} {c1 c2:Int} {n1 n2:Nat} (h1:c1=(n1:Int)) (h2:c2=(n2:Int)):Bytes (w.alloc (.cells #[.int .u8 c1,.int .u8 c2] 5)) w.heap.size [n1,n2]:=by
 subst h1 h2
 refine⟨by simp,fun i hi=>?_⟩
 have:i=0∨i=1:=by simp at hi;omega
 rcases this with rfl|rfl<;>(rw[cell_blk (new_last rfl _)];rfl)
def cw3 (a b d:Nat):List Nat:=[(1600*a+40*b+d+1)/256,(1600*a+40*b+d+1)%256]
set_option maxRecDepth 100000 in
set_option maxHeartbeats 4000000 in
theorem cw3_calls {w:World} {g o n cap a b d:Nat} (ha:a<40) (hb:b<40) (hd:d<40) (hn:3≤n) (x0:w.cell? ⟨g,o,none⟩=some (.int .u8 a)) (x1:w.cell? ⟨g,o+1,none⟩=some (.int .u8 b)) (x2:w.cell? ⟨g,o+2,none⟩=some (.int .u8 d)):
 Calls Tryz.prog 210 #[.slice (some ⟨g,o,none⟩) n cap] w fun e w'=>∃b',w.heap.size≤b'∧e= .returned (.slice (some ⟨b',0,none⟩) 2 2)∧Bytes w' b' (cw3 a b d)∧Below w.heap.size w w':=by
 have hn0:(0:Int)<(n:Int):=by omega
 have hn1:(1:Int)<(n:Int):=by omega
 have hn2:(2:Int)<(n:Int):=by omega
 go_enter Tryz.func210,Tryz.ntmps210
 go_wp2
 go_quiet (fail)
 go_wp2
 go_ret
 refine⟨w.heap.size,Nat.le_refl _,rfl,?_,?_⟩
 ·exact Bytes.two (w:=w.drewN nq) (by omega) (by omega)
 ·exact(below_dr (Below.refl _ w) nq).alloc (Nat.le_refl _) _
def Fr (w w':World) (c:Nat) (v v':Value):Prop:=
 (∀g,g<w.heap.size→g≠c→v.ownBlock≠some g→w'.heap[g]? =w.heap[g]?)∧w.heap.size≤w'.heap.size∧(∀g,v'.ownBlock=some g→v.ownBlock=some g∨w.heap.size≤g)
theorem Fr.refl (w:World) (c:Nat) (v:Value):Fr w w c v v:=⟨fun _ _ _ _=>rfl,Nat.le_refl _,fun _ h=>Or.inl h⟩
theorem Fr.trans {w w' w'':World} {c:Nat} {v v' v'':Value} (h1:Fr w w' c v v') (h2:Fr w' w'' c v' v''):Fr w w'' c v v'':=by
 refine⟨fun g a b d=>?_,Nat.le_trans h1.2.1 h2.2.1,fun g e=>?_⟩
 ·rw[h2.1 g (Nat.lt_of_lt_of_le a h1.2.1) b (fun e=>?_),h1.1 g a b d]
  rcases h1.2.2 g e with h|h
  ·exact d h
  ·omega
 ·rcases h2.2.2 g e with h|h
  ·exact h1.2.2 g h
  ·exact Or.inr (Nat.le_trans h1.2.1 h)
theorem Fr.of_below {w w':World} (hb:Below w.heap.size w w') (c:Nat) (v:Value):Fr w w' c v v:=⟨fun g a _ _=>hb.block g a,hb.size,fun _ h=>Or.inl h⟩
theorem Fr.bytes {w w':World} {c:Nat} {v v':Value} {g:Nat} {xs:List Nat} (h:Fr w w' c v v') (hx:Bytes w g xs) (hg:g≠c) (ho:v.ownBlock≠some g):Bytes w' g xs∧v'.ownBlock≠some g:=by
 refine⟨⟨Nat.lt_of_lt_of_le hx.1 h.2.1,fun i hi=>(World.cell?_of_block (w:=w) (a:=⟨g,i,none⟩) (h.1 g hx.1 hg ho)).trans (hx.2 i hi)⟩,fun e=>?_⟩
 rcases h.2.2 g e with h'|h'
 ·exact ho h'
 ·have:=hx.1;omega
theorem Fr.of_grown {w w':World} {v:Value} {g c n cap:Nat} (hg:w.grownBy w' v.ownBlock) (hf:v.ownBlock=some g∨g=w.heap.size) (u:Value):
 Fr w (w'.setCell ⟨c,4,none⟩ u) c v (.slice (some ⟨g,0,none⟩) n cap):=by
 refine⟨fun k a b d=>(Below.heap_setCell _ _ _ _ (by simpa using b)).trans (hg.block k a (fun e=>d e.symm)),by have h9:=hg.size;simpa[World.setCell]using h9,fun k e=>?_⟩
 simp only[Value.ownBlock,Option.some.injEq]at e
 subst e
 rcases hf with h|h
 ·exact Or.inl h
 ·exact Or.inr (by omega)
theorem putCs_calls {ys:List Nat} {yb ycap:Nat} (h:Ctx w0 w base c mb mcap shape msg v cw pos ne sym skip) (hy:Bytes w yb ys) (hy0:0<ys.length) (hl:cw.length+ys.length≤5000):
 Calls Tryz.prog 209 #[.pointer (some ⟨c,0,none⟩),.slice (some ⟨yb,0,none⟩) ys.length ycap] w fun e w'=>e= .returned (.tuple #[])∧∃v',Ctx w0 w' base c mb mcap shape msg v' (cw++ys) pos ne sym skip∧Fr w w' c v v':=by
 have c4:=h.c4
 have H:=Lib.hid h
 have HY:=Lib.hid hy
 clear h hy
 go_enter Tryz.func209,Tryz.ntmps209
 go_wp2_with (first|(refine app49L rfl (.tmp 8) (.tmp 9) rfl base v cw rfl H.out.own yb ys.length ycap ys rfl rfl hy0 HY.out (by omega) H.out.b3 ?_;intro gx capx w' ho hg hfr;have hA:=H.out;have hbk:=(hg.block c (lt_of_some hA.blk) (fun e=>hA.ne_c _ e.symm rfl)).trans hA.blk;have k4:w'.cell? ⟨c,4,none⟩=some v:=(cell_blk hbk 4).trans rfl;have f4:=frozen_blk hbk 4;have S:=Lib.hid (hA.setCw hg (fun g e=>⟨(hA.own.lt g e).1,hA.ne_c g e,fun i b e2=>(hA.ne_s e2).2 g e⟩) ho);have HFR:=Lib.hid (Fr.of_grown (c:=c) (cap:=capx) (n:=cw.length+ys.length) hg hfr);clear hA hbk))
 go_end0
 exact⟨rfl,_,S.out,HFR.out _⟩
theorem triplet_calls {g o n cap a b d:Nat} (h:Ctx w0 w base c mb mcap shape msg v cw pos ne sym skip) (ha:a<40) (hb:b<40) (hd:d<40) (hn:3≤n) (hcap:n≤cap) (hc2:cap≤9223372036854775807) (hl:cw.length+2≤5000)
 (x0:w.cell? ⟨g,o,none⟩=some (.int .u8 a)) (x1:w.cell? ⟨g,o+1,none⟩=some (.int .u8 b)) (x2:w.cell? ⟨g,o+2,none⟩=some (.int .u8 d)):
 Calls Tryz.prog 208 #[.pointer (some ⟨c,0,none⟩),.slice (some ⟨g,o,none⟩) n cap] w fun e w'=>∃o',e= .returned (.slice (some ⟨g,o',none⟩) (n-3) (cap-3))∧(3<n→o'=o+3)∧∃v',Ctx w0 w' base c mb mcap shape msg v' (cw++cw3 a b d) pos ne sym skip∧Fr w w' c v v':=by
 have H:=Lib.hid h
 have C3:=Lib.hid (cw3_calls (cap:=cap) ha hb hd hn x0 x1 x2)
 have hn3:(3:Int)≤(n:Int):=by omega
 have hn4:(n:Int)≤(cap:Int):=by omega
 clear h x0 x1 x2
 by_cases hc3:cap=3
 ·subst hc3
  obtain rfl:n=3:=by omega
  go_enter Tryz.func208,Tryz.ntmps208
  go_wp2_with (first
   |(go_at_call 210;refine C3.out.mono ?_;rintro e w2 ⟨b',hb',rfl,hy,hbl⟩;have HD:=Lib.hid (H.out.keep hbl);have HF1:=Lib.hid (Fr.of_below hbl c v);have HY:=Lib.hid hy;clear hy hbl)
   |(go_at_call 209;refine(putCs_calls (ys:=cw3 a b d) HD.out HY.out (by unfold cw3;simp) hl).mono ?_;rintro e w3 ⟨rfl,v3,hc3,hf3⟩;have S:=Lib.hid hc3;have HF2:=Lib.hid (HF1.out.trans hf3);clear hc3 hf3))
  go_ret
  exact⟨_,rfl,fun h=>by omega,_,S.out,HF2.out⟩
 ·have hc4:¬((cap:Int)=3):=by omega
  have hc5:((cap:Int)==3)=false:=by simp;omega
  have hc6:(3:Int)<(cap:Int):=by omega
  go_enter Tryz.func208,Tryz.ntmps208
  go_wp2_with (first
   |(go_at_call 210;refine C3.out.mono ?_;rintro e w2 ⟨b',hb',rfl,hy,hbl⟩;have HD:=Lib.hid (H.out.keep hbl);have HF1:=Lib.hid (Fr.of_below hbl c v);have HY:=Lib.hid hy;clear hy hbl)
   |(go_at_call 209;refine(putCs_calls (ys:=cw3 a b d) HD.out HY.out (by unfold cw3;simp) hl).mono ?_;rintro e w3 ⟨rfl,v3,hc3,hf3⟩;have S:=Lib.hid hc3;have HF2:=Lib.hid (HF1.out.trans hf3);clear hc3 hf3))
  go_ret
  exact⟨_,rfl,fun h=>rfl,_,S.out,HF2.out⟩
end
end
section
open Go.RowKit
section
variable {w0 w:World} {base c mb mcap shape:Nat} {msg:List Nat} {v:Value} {cw:List Nat} {pos ne:Int} {sym:Option (Nat×Nat)} {skip:Int}
theorem Fr.of_sym {w w2:World} {n:Nat} (hb:Below (w.drewN n).heap.size (w.drewN n) w2) (c:Nat) (v:Value) (u:Value):Fr w (w2.setCell ⟨c,7,none⟩ u) c v v:=
 ⟨fun g a b _=>(Below.heap_setCell _ _ _ _ (by simpa using b)).trans (hb.block g a),by have h9:=hb.size;simpa[World.setCell]using h9,fun _ h=>Or.inl h⟩
set_option maxRecDepth 100000 in
set_option maxHeartbeats 4000000 in
theorem updN_calls {i len:Nat} (h:Ctx w0 w base c mb mcap shape msg v cw pos ne none skip) (hs:shape<3) (hl:lookSym (len:Int) shape=some i):
 Calls Tryz.prog 130 #[.pointer (some ⟨c,0,none⟩),.int .i64 len] w fun e w'=>e= .returned .nilIface∧(∃b,Ctx w0 w' base c mb mcap shape msg v cw pos ne (some (i,b)) skip)∧Fr w w' c v v:=by
 have k1:=h.c1
 have k2:=h.c2
 have k3:=h.c3
 have k7:w.cell? ⟨c,7,none⟩=some (.pointer none):=h.c7
 have H:=Lib.hid h
 have L:=Lib.hid hl
 clear h hl
 go_enter Tryz.func130,Tryz.ntmps130
 go_wp2
 go_region_with ((go_at_call 42;refine(lookI_calls hs L.out _).mono ?_;rintro e w2 ⟨bs,rfl,hbs,hsi,b2⟩;have HC:=Lib.hid ((H.out.drewN _).keep b2);have l7:w2.cell? ⟨c,7,none⟩=some (.pointer none):=HC.out.c7;have f7:=frozen_blk HC.out.blk 7;have S:=Lib.hid (HC.out.setSym hsi);have HF:=Lib.hid (fun u=>Fr.of_sym b2 c v u);clear hsi b2))
 all_goals go_wp2
 all_goals go_ret
 all_goals exact⟨rfl,⟨_,S.out⟩,HF.out _⟩
set_option maxRecDepth 100000 in
set_option maxHeartbeats 4000000 in
theorem updS_calls {i len j b:Nat} (h:Ctx w0 w base c mb mcap shape msg v cw pos ne (some (j,b)) skip) (hs:shape<3) (hl:lookSym (len:Int) shape=some i) (hj:(len:Int)≤dataOf j→j=i):
 Calls Tryz.prog 130 #[.pointer (some ⟨c,0,none⟩),.int .i64 len] w fun e w'=>e= .returned .nilIface∧(∃b,Ctx w0 w' base c mb mcap shape msg v cw pos ne (some (i,b)) skip)∧Fr w w' c v v:=by
 have k1:=h.c1
 have k2:=h.c2
 have k3:=h.c3
 have k7:w.cell? ⟨c,7,none⟩=some (.pointer (some ⟨b,0,none⟩)):=h.c7
 have hd:=si_data (h.syms j b rfl)
 have GC:=fun(w':World) (hh:w'.cell? ⟨b,1,none⟩=some (.int .i64 (dataOf j)))=>getCap_calls hh
 have H:=Lib.hid h
 have L:=Lib.hid hl
 have HJ:=Lib.hid hj
 clear h hl hj
 generalize dataOf j=dj at*
 by_cases hle:(len:Int)≤dj
 ·have hgt:¬(len:Int)>dj:=by omega
  have hji:=HJ.out hle
  subst hji
  go_enter Tryz.func130,Tryz.ntmps130
  go_wp2_with (first|(go_at_call 96;refine(GC _ hd).mono ?_;rintro e w2 ⟨rfl,rfl⟩))
  go_ret
  exact⟨rfl,⟨b,H.out⟩,Fr.refl _ _ _⟩
 ·have hgt:(len:Int)>dj:=by omega
  go_enter Tryz.func130,Tryz.ntmps130
  go_upto_region 3 with(first|(go_at_call 96;refine(GC _ hd).mono ?_;rintro e w2 ⟨rfl,rfl⟩))
  go_region_with ((go_at_call 42;refine(lookI_calls hs L.out _).mono ?_;rintro e w2 ⟨bs,rfl,hbs,hsi,b2⟩;have HC:=Lib.hid ((H.out.drewN _).keep b2);have l7:w2.cell? ⟨c,7,none⟩=some (.pointer (some ⟨b,0,none⟩)):=HC.out.c7;have f7:=frozen_blk HC.out.blk 7;have S:=Lib.hid (HC.out.setSym hsi);have HF:=Lib.hid (fun u=>Fr.of_sym b2 c v u);clear hsi b2))
  all_goals go_wp2
  all_goals go_ret
  all_goals exact⟨rfl,⟨_,S.out⟩,HF.out _⟩
theorem updG_calls {i len:Nat} (h:Ctx w0 w base c mb mcap shape msg v cw pos ne sym skip) (hs:shape<3) (hl:lookSym (len:Int) shape=some i) (hj:∀j b,sym=some (j,b)→(len:Int)≤dataOf j→j=i):
 Calls Tryz.prog 130 #[.pointer (some ⟨c,0,none⟩),.int .i64 len] w fun e w'=>e= .returned .nilIface∧(∃b,Ctx w0 w' base c mb mcap shape msg v cw pos ne (some (i,b)) skip)∧Fr w w' c v v:=by
 rcases sym with _|⟨j,b⟩
 ·exact updN_calls h hs hl
 ·exact updS_calls h hs hl (hj j b rfl)
end
end
section
open Go.RowKit
def trips:List Nat→List Nat
 |a::b::d::r=>cw3 a b d++trips r
 |_=>[]
theorem trips_snoc:∀(n:Nat) (xs:List Nat) (a b d:Nat),xs.length=3*n→trips (xs++[a,b,d])=trips xs++cw3 a b d
 |0,[],a,b,d,_=>by simp[trips]
 |n+1,x::y::z::r,a,b,d,h=>by
  have h':r.length=3*n:=by simp at h;omega
  simp only[List.cons_append,trips,List.append_assoc]
  rw[trips_snoc n r a b d h']
 |0,_::_,_,_,_,h=>by simp at h
 |n+1,[],_,_,_,h=>by simp at h
 |n+1,[_],_,_,_,h=>by simp at h;omega
 |n+1,[_,_],_,_,_,h=>by simp at h;omega
theorem trips_len:∀(n:Nat) (xs:List Nat),xs.length≤n→(trips xs).length=2*(xs.length/3)
 |_,[],_=>by simp[trips]
 |_,[_],_=>by simp[trips]
 |_,[_,_],_=>by simp[trips]
 |0,_::_::_::_,h=>by simp at h
 |n+1,a::b::d::r,h=>by
  have:=trips_len n r (by simp at h;omega)
  simp only[trips,List.length_append,this,cw3,List.length_cons,List.length_nil];omega
theorem take_three {xs:List Nat} {k:Nat} (h:3*k+3≤xs.length):xs.take (3*(k+1))=xs.take (3*k)++[xs.getD (3*k) 0,xs.getD (3*k+1) 0,xs.getD (3*k+2) 0]:=by
 rw[show 3*(k+1)=3*k+1+1+1 by omega,←take_snoc (k:=3*k+1+1) (by omega),←take_snoc (k:=3*k+1) (by omega),←take_snoc (k:=3*k) (by omega)]
 simp[Nat.add_assoc]
theorem trips_step {xs:List Nat} {k:Nat} (h:3*k+3≤xs.length):trips (xs.take (3*(k+1)))=trips (xs.take (3*k))++cw3 (xs.getD (3*k) 0) (xs.getD (3*k+1) 0) (xs.getD (3*k+2) 0):=by
 rw[take_three h]
 exact trips_snoc k _ _ _ _ (by rw[List.length_take];omega)
theorem trips_all:∀(n:Nat) (xs:List Nat),xs.length≤n→trips (xs.take (3*(xs.length/3)))=trips xs
 |_,[],_=>by simp[trips]
 |_,[_],_=>by simp[trips]
 |_,[_,_],_=>by simp[trips]
 |0,_::_::_::_,h=>by simp at h
 |n+1,a::b::d::r,h=>by
  have ih:=trips_all n r (by simp at h;omega)
  have e:3*((a::b::d::r).length/3)=3*(r.length/3)+3:=by simp only[List.length_cons];omega
  rw[e]
  simp only[List.take_succ_cons,trips,ih]
def RestOf (g L cap k:Nat) (u:Value):Prop:=∃o,u= .slice (some ⟨g,o,none⟩) (L-3*k) (cap-3*k)∧(3*k<L→o=3*k)
def slLen:Value→Nat
 | .slice _ n _=>n
 |_=>0
section
variable {w0 w:World} {base c mb mcap shape:Nat} {msg:List Nat} {v:Value} {cw:List Nat} {pos ne:Int} {sym:Option (Nat×Nat)} {skip:Int}
theorem updI_calls {i len:Nat} {x:Int} (hx:x=(len:Int)) (h:Ctx w0 w base c mb mcap shape msg v cw pos ne sym skip) (hs:shape<3) (hl:lookSym (len:Int) shape=some i) (hj:∀j b,sym=some (j,b)→(len:Int)≤dataOf j→j=i):
 Calls Tryz.prog 130 #[.pointer (some ⟨c,0,none⟩),.int .i64 x] w fun e w'=>e= .returned .nilIface∧(∃b,Ctx w0 w' base c mb mcap shape msg v cw pos ne (some (i,b)) skip)∧Fr w w' c v v:=by
 subst hx;exact updG_calls h hs hl hj
structure Wr (w0 wr:World) (base c mb mcap shape:Nat) (msg:List Nat) (cw:List Nat) (pos ne:Int) (sym:Option (Nat×Nat)) (g:Nat) (xs:List Nat) (k:Nat):Prop where
 ctx:∃v',Ctx w0 wr base c mb mcap shape msg v' (cw++trips (xs.take (3*k))) pos ne sym 0∧v'.ownBlock≠some g
 byt:Bytes wr g xs
 ne_c:g≠c
theorem Wr.step {wr:World} {g k o cap:Nat} {xs:List Nat} (h:Wr w0 wr base c mb mcap shape msg cw pos ne sym g xs k) (hk:3*k+3≤xs.length) (hx:∀j,j<xs.length→xs.getD j 0<40) (ho:o=3*k) (hcap:xs.length≤cap) (hc2:cap≤9223372036854775807)
 (hl:cw.length+xs.length≤4900):
 Calls Tryz.prog 208 #[.pointer (some ⟨c,0,none⟩),.slice (some ⟨g,o,none⟩) (xs.length-3*k) (cap-3*k)] wr fun e w'=>(∃u,e= .returned u∧RestOf g xs.length cap (k+1) u)∧Wr w0 w' base c mb mcap shape msg cw pos ne sym g xs (k+1):=by
 subst ho
 obtain⟨⟨v',hc,hv⟩,hy,hg⟩:=h
 have hlen:=trips_len _ (xs.take (3*k)) (Nat.le_refl _)
 rw[List.length_take]at hlen
 refine(triplet_calls hc (hx (3*k) (by omega)) (hx (3*k+1) (by omega)) (hx (3*k+2) (by omega)) (n:=xs.length-3*k) (cap:=cap-3*k) (by omega) (by omega) (by omega) (by rw[List.length_append,hlen];omega)
  (hy.2 (3*k) (by omega)) (hy.2 (3*k+1) (by omega)) (hy.2 (3*k+2) (by omega))).mono ?_
 rintro e w' ⟨o',rfl,ho',v2,hc2',hf⟩
 obtain⟨hy2,hv2⟩:=hf.bytes hy hg hv
 refine⟨⟨_,rfl,o',?_,fun hlt=>by rw[ho' (by omega)];omega⟩,⟨v2,?_,hv2⟩,hy2,hg⟩
 ·congr 1<;>omega
 ·rw[trips_step hk,←List.append_assoc];exact hc2'
end
end
section
open Go.RowKit
section
variable {w0 w:World} {base c mb mcap shape:Nat} {msg:List Nat} {v:Value} {cw:List Nat} {pos ne:Int} {sym:Option (Nat×Nat)}
theorem look_le {d:Int} {s i:Nat} (h:lookSym d s=some i):d≤dataOf i∧dataOf i≤1558:=by
 have h1:=List.find?_some h
 have h2:=List.mem_of_find?_eq_some h
 refine⟨?_,?_⟩
 ·simp only[fitsSym,Bool.and_eq_true,decide_eq_true_eq]at h1;exact h1.2
 ·have:∀i∈List.range 30,dataOf i≤1558:=by decide+kernel
  exact this i h2
def EodPost (w0:World) (base c mb mcap shape:Nat) (msg cw':List Nat) (pos':Int) (i:Nat) (e:Ending) (w':World):Prop:=
 e= .returned .nilIface∧∃v' b',Ctx w0 w' base c mb mcap shape msg v' cw' pos' 0 (some (i,b')) 0
set_option maxRecDepth 100000 in
set_option maxHeartbeats 8000000 in
theorem eod0_calls {g cap i:Nat} {xs:List Nat} (h:Ctx w0 w base c mb mcap shape msg v cw pos ne sym 0) (hy:Bytes w g xs) (hg:g≠c) (hv:v.ownBlock≠some g) (hcap:xs.length≤cap) (hc2:cap≤9223372036854775807)
 (hx:∀j,j<xs.length→xs.getD j 0<40) (hc1:0<cw.length) (hl:cw.length+xs.length≤4900) (hm:msg.length≤100000) (hs:shape<3) (hlk:lookSym ((cw.length+2*(xs.length/3):Nat):Int) shape=some i)
 (hj:∀j b,sym=some (j,b)→((cw.length+2*(xs.length/3):Nat):Int)≤dataOf j→j=i) (h3:xs.length%3=0):
 Calls Tryz.prog 206 #[.pointer (some ⟨c,0,none⟩),.slice (some ⟨g,0,none⟩) xs.length cap] w
  (EodPost w0 base c mb mcap shape msg (cw++trips xs++if (0<dataOf i-((cw.length+2*(xs.length/3):Nat):Int))∨pos<(msg.length:Int)then[254]else[]) pos i):=by
 obtain⟨tl,htl⟩:∃tl:List Nat,tl=if (0<dataOf i-((cw.length+2*(xs.length/3):Nat):Int))∨pos<(msg.length:Int)then[254]else[]:=⟨_,rfl⟩
 rw[←htl]
 obtain⟨L,hL⟩:∃L,L=xs.length:=⟨_,rfl⟩
 rw[←hL]at hcap hl hlk hj htl h3 ⊢
 have H:=Lib.hid h
 have HY:=Lib.hid hy
 have LK:=Lib.hid hlk
 have HJ:=Lib.hid hj
 have HX:=Lib.hid hx
 have HL:=Lib.hid hL
 have HT:=Lib.hid htl
 have HV:=Lib.hid (And.intro hg hv)
 have hav:=look_le hlk
 have HAV:=Lib.hid hav
 clear h hy hlk hj hx hg hv htl hL
 have q3:(L:Int)%3=0:=by omega
 go_enter Tryz.func206,Tryz.ntmps206
 go_upto_region 8 with(first
  |(go_at_call 92;refine(count_calls H.out hc1).mono ?_;rintro e w2 ⟨rfl,rfl⟩)
  |(go_at_call 130;refine(updI_calls (len:=cw.length+2*(L/3)) (by omega) H.out hs LK.out HJ.out).mono ?_;rintro e w3 ⟨rfl,⟨sb,hc3⟩,hf3⟩;have HC:=Lib.hid hc3;have HF:=Lib.hid hf3;have k7:=hc3.c7;have sd:=si_data (hc3.syms i sb rfl);clear hc3 hf3)
  |(go_at_call 95;refine(getSym_calls k7).mono ?_;rintro e w4 ⟨rfl,rfl⟩)
  |(go_at_call 96;refine(getCap_calls sd).mono ?_;rintro e w5 ⟨rfl,rfl⟩))
 have HW:Hid (Wr w0 w5 base c mb mcap shape msg cw pos ne (some (i,sb)) g xs 0):=by
  obtain⟨b1,b2⟩:=HF.out.bytes HY.out HV.out.1 HV.out.2
  exact⟨⟨v,by simpa[trips]using HC.out,b2⟩,b1,HV.out.1⟩
 have hav2:0≤dataOf i-((cw.length:Int)+(L:Int)/3*2)∧dataOf i-((cw.length:Int)+(L:Int)/3*2)≤2000:=by omega
 have htl2:Hid (tl=if (0<dataOf i-((cw.length:Int)+(L:Int)/3*2))∨pos<(msg.length:Int)then[254]else[]):=by
  rw[HT.out,show ((cw.length+2*(L/3):Nat):Int)=(cw.length:Int)+(L:Int)/3*2 by omega];exact Lib.hid rfl
 clear HT HC HF k7 sd H HY HJ LK
 generalize dataOf i-((cw.length:Int)+(L:Int)/3*2)=av at*
 have hb1:(av==1)=true∨(av==1)=false:=by cases (av==1)<;>simp
 rcases hb1 with hb1|hb1
 all_goals
  go_wp2
  go_loopw [1] (fun u wr=>∃k,3*k≤L∧RestOf g L cap k u∧Hid (Wr w0 wr base c mb mcap shape msg cw pos ne (some (i,sb)) g xs k)) (fun u _=>slLen u)
  case atStart=>exact⟨0,by omega,⟨0,by simp,fun _=>rfl⟩,HW⟩
  case round=>
   clear HW
   obtain⟨k,hk,⟨o,rfl,ho⟩,HW⟩:=hrel
   by_cases hk3:3*k+3≤L
   ·have hge:((L-3*k:Nat):Int)≥3:=by omega
    have hok:=ho (by omega)
    have ST:=HW.out.step (o:=o) (cap:=cap) (by rw[←HL.out];exact hk3) HX.out hok (by rw[←HL.out];exact hcap) hc2 (by rw[←HL.out];exact hl)
    rw[←HL.out]at ST
    have ST:=Lib.hid ST
    clear ho hok
    go_wp2_with (first|(go_at_call 208;refine ST.out.mono ?_;rintro e w6 ⟨⟨u,rfl,hu⟩,hw6⟩;have HW6:=Lib.hid hw6;clear hw6))
    obtain⟨o2,rfl,ho2⟩:=hu
    exact⟨⟨k+1,by omega,⟨o2,rfl,ho2⟩,HW6⟩,by simp[slLen];omega⟩
   ·have hge:¬((L-3*k:Nat):Int)≥3:=by omega
    obtain rfl:k=L/3:=by omega
    have hLk:L-3*(L/3)=0:=by omega
    obtain⟨⟨v',hcx,-⟩,-,-⟩:=HW.out
    have e1:xs.take (3*(L/3))=xs:=List.take_of_length_le (by rw[←HL.out];omega)
    rw[e1]at hcx
    have HCX:=Lib.hid hcx
    have hcl:(cw++trips xs).length≤4990:=by rw[List.length_append,trips_len _ xs (Nat.le_refl _),←HL.out];omega
    clear hcx e1 HW ho
    generalize cw++trips xs=cw2 at*
    have MO:=fun w' (h':Ctx w0 w' base c mb mcap shape msg v' cw2 pos ne (some (i,sb)) 0)=>more_calls h' hm (Int.le_refl 0) (by decide)
    simp only[Int.sub_zero]at MO
    have MO:=Lib.hid MO
    by_cases ha:0<av
    ·have ha2:av>0:=ha
     have ht:tl=[254]:=by rw[htl2.out,if_pos (Or.inl ha)]
     subst ht
     clear htl2
     go_wp2_with (first
      |(go_at_call 87;refine(putC_calls HCX.out 254 _ rfl (by omega)).mono ?_;rintro e w7 ⟨rfl,v7,hc7⟩;have HC7:=Lib.hid hc7;clear hc7)
      |(go_at_call 176;refine(signal_calls HC7.out 0).mono ?_;rintro e w8 ⟨rfl,hc8⟩;have HC8:=Lib.hid hc8;clear hc8))
     go_ret
     exact⟨rfl,_,_,HC8.out⟩
    ·have ha2:¬av>0:=ha
     by_cases hp:pos<(msg.length:Int)
     ·have ht:tl=[254]:=by rw[htl2.out,if_pos (Or.inr hp)]
      have hp2:decide (pos<(msg.length:Int))=true:=decide_eq_true hp
      subst ht
      clear htl2
      rw[hp2]at MO
      go_wp2_with (first
       |(go_at_call 89;refine(MO.out _ HCX.out).mono ?_;rintro e w6 ⟨rfl,nm,rfl⟩)
       |(go_at_call 87;refine(putC_calls (HCX.out.drewN _) 254 _ rfl (by omega)).mono ?_;rintro e w7 ⟨rfl,v7,hc7⟩;have HC7:=Lib.hid hc7;clear hc7)
       |(go_at_call 176;refine(signal_calls HC7.out 0).mono ?_;rintro e w8 ⟨rfl,hc8⟩;have HC8:=Lib.hid hc8;clear hc8))
      go_ret
      exact⟨rfl,_,_,HC8.out⟩
     ·have ht:tl=[]:=by rw[htl2.out,if_neg (by omega)]
      have hp2:decide (pos<(msg.length:Int))=false:=decide_eq_false hp
      subst ht
      clear htl2
      rw[hp2]at MO
      go_wp2_with (first
       |(go_at_call 89;refine(MO.out _ HCX.out).mono ?_;rintro e w6 ⟨rfl,nm,rfl⟩)
       |(go_at_call 176;refine(signal_calls (HCX.out.drewN _) 0).mono ?_;rintro e w8 ⟨rfl,hc8⟩;have HC8:=Lib.hid hc8;clear hc8))
      go_ret
      exact⟨rfl,_,_,by rw[List.append_nil];exact HC8.out⟩
end
end
end Go.Proofs.YtcnallabiffemaaGreatDoor
