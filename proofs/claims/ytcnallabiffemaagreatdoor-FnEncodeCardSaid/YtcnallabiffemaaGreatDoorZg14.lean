/- impl.Encode, behind the writer; the law's own question 'works'. -/
import Derived.Test.YtcnallabiffemaaGreatDoorZt
import Derived.Test.YtcnallabiffemaaGreatDoorZb
import Derived.Defers
import Derived.Recover
import Derived.Outline
import Derived.Test.YtcnallabiffemaaGreatDoorZh0
set_option linter.unusedVariables false
set_option linter.unusedSimpArgs false
namespace Go.Proofs.YtcnallabiffemaaGreatDoor
section
open Go.RowKit
def out6:List Nat:=c6++eccOut (facN (tOf 0)) c6
theorem smallC6:Small c6:=small_of_mem (by decide+kernel)
theorem small_app {a b:List Nat} (ha:Small a) (hb:Small b):Small (a++b):=by
 intro i
 rw[List.getD_eq_getElem?_getD]
 rcases Nat.lt_or_ge i a.length with h|h
 ·rw[List.getElem?_append_left h,←List.getD_eq_getElem?_getD];exact ha i
 ·rw[List.getElem?_append_right h,←List.getD_eq_getElem?_getD];exact hb _
theorem out6_len:out6.length=totN 0:=by
 unfold out6
 rw[List.length_append,eccOut_len];decide+kernel
theorem write6:∃bits,∀w,Calls Tryz.prog 30 #[.string s6,.int .i64 0] w (WritePost 10 10 8 8 8 bits w):=by
 obtain⟨f,hf,hfl⟩:=dims3 (i:=0) (by omega)
 refine⟨bitsOf 0 out6 f,fun w=>?_⟩
 exact write_calls (i:=0) (shape:=0) (cw:=c6) (out:=out6) (f:=f) (by decide+kernel) (by omega) (by omega) (by decide) (high6 w) look6
  (fun wx b cb cap hb hcw=>enc1_calls b 0 cb cap c6 wx (by omega) hb rfl rfl smallC6 hcw)
  (small_app smallC6 (eccOut_small _ _)) out6_len hf hfl
end
section
open Go.RowKit
theorem catch_idle (p:Addr) (w:World):
 CallsD Tryz.prog 61 #[.pointer (some p)] .returning w fun e u' w'=>e= .returned (.tuple #[])∧u'= .returning∧w'=w:=by
 refine callsD_of_wpS Tryz.func61 rfl fun c₀ cs hu=>?_
 apply wpS_seq
 apply wpS_region
 simp[wpOpsS,go_sem,recoverD,hu,Tryz.ntmps61,Exit.thenS]
 refine wpS_cond (t:=false) (by simp[Act.eval,Array.replicate]) ?_
 simp only[Bool.false_eq_true,if_false]
 refine wpS_of_wp (wp_skip ?_)
 cases c₀
 simp_all [bodyPostS,results,Tryz.results61]
theorem lt_of_blk {w:World} {s:Nat} {o:Obj} (h:w.heap[s]? =some o):s<w.heap.size:=(Array.getElem?_eq_some_iff.1 h).1
def TryIn (b0:Nat) (R:Bool→World→Prop) (e:Ending) (w':World):Prop:=∃b,e= .returned (.bool b)∧w'.heap[b0]? =some (.cells #[.bool false] 4)∧R b w'
def TryPost (b0:Nat) (R:Bool→World→Prop) (e:Ending) (w'':World):Prop:=∃b w',e= .returned (.bool b)∧R b w'∧w''=w'.setCell ⟨b0,0,none⟩ (.bool b)
set_option maxRecDepth 100000 in
set_option maxHeartbeats 2000000 in
theorem try_calls {f:Nat} {caps:Array Value} {w:World} {R:Bool→World→Prop} (hen:∀w,(callFunc f caps).run Tryz.prog w= .ok (.enter f caps) w)
 (hF:Calls Tryz.prog f caps (w.alloc (.cells #[.bool false] 4)) (TryIn w.heap.size R)):
 Calls Tryz.prog 28 #[.func (.func f) #[] caps] w (TryPost w.heap.size R):=by
 have hmf:∀(fn:Fn) (first cap:Array Value) (w:World),(Instr.makeFunc fn first cap).run Tryz.prog w= .ok (.func fn first cap) w:=fun _ _ _ _=>rfl
 go_enter_defers Tryz.func28,Tryz.ntmps28
 go_wp2_with (refine hF.mono ?_;rintro e w1 ⟨b,rfl,hk,hR⟩;have k0:=cell_blk hk 0;have f0:=frozen_blk hk 0;have HR:=Lib.hid hR;clear hR hF)
 refine leaves_cons (f:=61) (args:= #[.pointer (some ⟨w.heap.size,0,none⟩)]) (by simp) (by simp[go_sem]) ?_
 refine(catch_idle ⟨w.heap.size,0,none⟩ _).mono ?_
 rintro e u' w'' ⟨rfl,rfl,rfl⟩
 have hk2:(w1.setCell ⟨w.heap.size,0,none⟩ (.bool b)).cell? ⟨w.heap.size,0,none⟩=some (.bool b):=by rw[cell_blk (heap_setCell_at hk 0 (.bool b))];rfl
 simp[Leaves,settle,results,Tryz.results28,go_sem,hk2]
 exact⟨b,w1,rfl,HR.out,rfl⟩
end
section
open Go.RowKit
theorem app24 {ops:Array Oper} {rest:List Oper} {o:Oper} {a:Act} {Q:Exit→Act→World→Prop} {w:World} (hgd:o.guard=none) (s x:Operand)
 (ho:o.op= .call {callee:= .builtin .append,args:= #[s,x],argTypes:= #[24,24]})
 (base:Nat) (v:Value) (n:Nat) (xs:List Value) (hs:a.eval s=v) (hown:w.ownsRow base 49 1 v n xs) (hn:n=xs.length)
 (b c:Nat) (u:Value) (hx:a.eval x= .slice (some ⟨b,0,none⟩) 1 c) (hu:w.cell? ⟨b,0,none⟩=some u) (h1:u.oneCell'=true)
 (hlen:n≤100000) (hbase:base≤w.heap.size)
 (h:∀v' w',w'.ownsRow base 49 1 v' (n+1) (xs++[u])→w.grownBy w' v.ownBlock→wpList Tryz.prog ops Q rest (a.put o.dst v') w'):
 wpList Tryz.prog ops Q (o::rest) a w:=by
 obtain⟨i,hi,hz,hsz,hb⟩:=info_parts Tryz.inf49
 refine wpList_append_own w hgd s x 24 ho base 49 i _ 1 24 Tryz.underlying24 hi hz hsz hb rfl (by omega) v n xs hs hown ⟨b,0,none⟩ 1 c [u] hx (by simp) ?_ ?_ (by simp only[maxLen];omega) (by omega) hbase ?_
 ·intro j z hj
  rcases j with _|j
  ·simp only[List.getElem?_cons_zero,Option.some.injEq]at hj
   rw[show (⟨b,0,none⟩:Addr).add 0=⟨b,0,none⟩from rfl,hu,hj]
  ·simp at hj
 ·intro z hz
  rw[List.mem_singleton.1 hz];exact h1
 ·intro v' w' h2 h3 _
  exact h v' w' h2 h3
def rv (gs:List (Nat×Nat)) (rows:List (List Nat)):List Value:=List.zipWith (fun g r=>Value.slice (some ⟨g.1,0,none⟩) r.length g.2) gs rows
structure RowsM (w:World) (base:Nat) (v:Value) (gs:List (Nat×Nat)) (rows:List (List Nat)):Prop where
 len:gs.length=rows.length
 own:w.ownsRow base 49 1 v rows.length (rv gs rows)
 row:∀i,i<rows.length→Bytes w (gs.getD i (0,0)).1 (rows.getD i [])∧base≤(gs.getD i (0,0)).1∧∃cs,w.heap[(gs.getD i (0,0)).1]? =some (.cells cs 5)
theorem rv_len {gs:List (Nat×Nat)} {rows:List (List Nat)} (h:gs.length=rows.length):(rv gs rows).length=rows.length:=by simp[rv,h]
theorem rv_snoc {gs:List (Nat×Nat)} {rows:List (List Nat)} (h:gs.length=rows.length) (g:Nat×Nat) (r:List Nat):rv (gs++[g]) (rows++[r])=rv gs rows++[.slice (some ⟨g.1,0,none⟩) r.length g.2]:=by
 unfold rv;rw[List.zipWith_append h];rfl
theorem RowsM.nil (w:World) (base:Nat):RowsM w base (.slice none 0 0) [] []:=⟨rfl,World.ownsRow_nil w base 49 1,fun i h=>by simp at h⟩
theorem ownsRow_block {w w':World} {base:Nat} {e:TypeId} {v:Value} {n:Nat} {xs:List Value} (h:w.ownsRow base e 1 v n xs) (hb:∀g,v.ownBlock=some g→w'.heap[g]? =w.heap[g]?):w'.ownsRow base e 1 v n xs:=by
 obtain⟨h1,h2⟩:=h
 refine⟨h1,?_⟩
 rcases h2 with h|⟨g,cap,cur,rfl,a2,a3,a4,a5,a6⟩
 ·exact .inl h
 ·exact .inr ⟨g,cap,cur,rfl,a2,(hb g rfl).trans a3,a4,a5,a6⟩
theorem RowsM.below {w w':World} {base B:Nat} {v:Value} {gs:List (Nat×Nat)} {rows:List (List Nat)} (h:RowsM w base v gs rows) (hb:Below B w w') (hB:w.heap.size≤B):RowsM w' base v gs rows:=
 ⟨h.len,ownsRow_block h.own (fun g hg=>hb.block g (Nat.lt_of_lt_of_le (World.ownsRow.lt h.own g hg).2 hB)),fun i hi=>by
   obtain⟨h1,h2,cs,h3⟩:=h.row i hi
   exact⟨h1.below hb (Nat.lt_of_lt_of_le h1.1 hB),h2,cs,(hb.block _ (Nat.lt_of_lt_of_le h1.1 hB)).trans h3⟩⟩
theorem own_tag {w:World} {base:Nat} {e:TypeId} {v:Value} {n:Nat} {xs:List Value} (h:w.ownsRow base e 1 v n xs):∀g,v.ownBlock=some g→∃cs,w.heap[g]? =some (.cells cs e):=by
 intro g hg
 obtain⟨_,h2⟩:=h
 rcases h2 with h|⟨g1,cap,cur,rfl,a2,a3,a4,a5,a6⟩
 ·rw[h.1]at hg;cases hg
 ·simp only[Value.ownBlock,Option.some.injEq]at hg
  subst hg;exact⟨_,a3⟩
theorem own_slice {w:World} {base:Nat} {e:TypeId} {v:Value} {n:Nat} {xs:List Value} (h:w.ownsRow base e 1 v n xs) (hn:n≠0):∃g cap,v= .slice (some ⟨g,0,none⟩) n cap:=by
 obtain⟨_,h2⟩:=h
 rcases h2 with h|⟨g1,cap,cur,rfl,a2,a3,a4,a5,a6⟩
 ·exact absurd h.2 hn
 ·exact⟨g1,cap,rfl⟩
theorem getD_snoc {α:Type} {xs:List α} {x d:α} {i:Nat} (h:i<(xs++[x]).length):(xs++[x]).getD i d=if i<xs.length then xs.getD i d else x:=by
 simp only[List.length_append,List.length_cons,List.length_nil]at h
 rw[List.getD_eq_getElem?_getD]
 split
 ·rename_i h1
  rw[List.getElem?_append_left h1,←List.getD_eq_getElem?_getD]
 ·rename_i h1
  obtain rfl:i=xs.length:=by omega
  simp
theorem RowsM.snoc {w w':World} {base:Nat} {v v':Value} {gs:List (Nat×Nat)} {rows:List (List Nat)} {g cap:Nat} {r:List Nat} (h:RowsM w base v gs rows) (hg:w.grownBy w' v.ownBlock)
 (ho:w'.ownsRow base 49 1 v' (rows.length+1) (rv gs rows++[.slice (some ⟨g,0,none⟩) r.length cap])) (hr:Bytes w g r) (hb:base≤g) (ht:∃cs,w.heap[g]? =some (.cells cs 5)):
 RowsM w' base v' (gs++[(g,cap)]) (rows++[r]):=by
 have hkeep:∀(b:Nat) (cs:Array Value),w.heap[b]? =some (Obj.cells cs 5)→some b≠v.ownBlock:=by
  intro b cs h1 e
  obtain⟨cs2,h2⟩:=own_tag h.own b e.symm
  rw[h1]at h2;injection h2 with h2;injection h2 with _ h2;exact absurd h2 (by decide)
 have hkb:∀(b:Nat) (cs:Array Value),w.heap[b]? =some (Obj.cells cs 5)→w'.heap[b]? =some (Obj.cells cs 5):=fun b cs h1=>(hg.block b (lt_of_blk h1) (hkeep b cs h1)).trans h1
 refine⟨by simp[h.len],?_,fun i hi=>?_⟩
 ·rw[rv_snoc h.len,List.length_append];exact ho
 ·rw[getD_snoc hi,getD_snoc (by rw[List.length_append,h.len];simpa using hi),h.len]
  by_cases hlt:i<rows.length
  ·rw[if_pos hlt,if_pos hlt]
   obtain⟨h1,h2,cs,h3⟩:=h.row i hlt
   exact⟨h1.grown hg (hkeep _ cs h3),h2,cs,hkb _ cs h3⟩
  ·rw[if_neg hlt,if_neg hlt]
   obtain⟨cs,h3⟩:=ht
   exact⟨hr.grown hg (hkeep _ cs h3),hb,cs,hkb _ cs h3⟩
theorem RowsM.set_ne {w:World} {base:Nat} {v:Value} {gs:List (Nat×Nat)} {rows:List (List Nat)} (h:RowsM w base v gs rows) {a:Addr} (ha:a.block<base) (u:Value):RowsM (w.setCell a u) base v gs rows:=
 ⟨h.len,ownsRow_block h.own (fun g hg=>Below.heap_setCell _ _ _ _ (by have:=(World.ownsRow.lt h.own g hg).1;omega)),fun i hi=>by
   obtain⟨h1,h2,cs,h3⟩:=h.row i hi
   exact⟨h1.set_ne (by omega) u,h2,cs,by rw[Below.heap_setCell _ _ _ _ (by omega)];exact h3⟩⟩
theorem RowsM.alloc {w:World} {base:Nat} {v:Value} {gs:List (Nat×Nat)} {rows:List (List Nat)} (h:RowsM w base v gs rows) (o:Obj):RowsM (w.alloc o) base v gs rows:=
 h.below ((Below.refl _ _).alloc (Nat.le_refl _) o) (Nat.le_refl _)
structure But (po:Nat) (wq w':World):Prop where
 below:Below po wq w'
 rest:∀b,b<wq.heap.size→b≠po→w'.heap[b]? =wq.heap[b]?
theorem But.of {po:Nat} {wq w':World} (h:Below wq.heap.size wq w') (hp:po<wq.heap.size):But po wq w':=⟨h.mono (by omega),fun b hb _=>h.block b hb⟩
theorem But.trans {po B:Nat} {wq w1 w2:World} (h:But po wq w1) (hb:Below B w1 w2) (hB:wq.heap.size≤B) (hp:po<wq.heap.size):But po wq w2:=
 ⟨h.below.trans (hb.mono (by omega)),fun b h1 h2=>(hb.block b (by omega)).trans (h.rest b h1 h2)⟩
theorem But.size {po:Nat} {wq w':World} (h:But po wq w'):wq.heap.size≤w'.heap.size:=h.below.size
theorem push_row {wr w':World} {base B po rg rcap:Nat} {v v':Value} {gs:List (Nat×Nat)} {rows:List (List Nat)} {r:List Nat} {o:Obj} (h:RowsM wr base v gs rows) (hpo:wr.heap[po]? =some (.cells #[v] 24)) (hpb:po<base)
 (hr:Own wr B .u8 5 (.slice (some ⟨rg,0,none⟩) r.length rcap) r) (hB:base≤B) (hg:(wr.alloc o).grownBy w' v.ownBlock)
 (ho:w'.ownsRow base 49 1 v' (rows.length+1) (rv gs rows++[.slice (some ⟨rg,0,none⟩) r.length rcap])):
 w'.heap[po]? =some (.cells #[v] 24)∧RowsM (w'.setCell ⟨po,0,none⟩ v') base v' (gs++[(rg,rcap)]) (rows++[r])∧(w'.setCell ⟨po,0,none⟩ v').heap[po]? =some (.cells #[v'] 24)∧
  (∀wq,But po wq wr→wq.heap.size≤base→But po wq (w'.setCell ⟨po,0,none⟩ v'))∧(∀b W H bm,BitM wr b W H bm→BitM (w'.setCell ⟨po,0,none⟩ v') b W H bm):=by
 have hne:∀(b:Nat) (cs:Array Value) (T:TypeId),T≠49→wr.heap[b]? =some (Obj.cells cs T)→some b≠v.ownBlock:=by
  intro b cs T hT h1 e
  obtain⟨cs2,h2⟩:=own_tag h.own b e.symm
  rw[h1]at h2;injection h2 with h2;injection h2 with _ h2;exact hT h2
 have hk:∀(b:Nat) (cs:Array Value) (T:TypeId),T≠49→wr.heap[b]? =some (Obj.cells cs T)→w'.heap[b]? =some (Obj.cells cs T):=fun b cs T hT h1=>
  (hg.block b (by have:=lt_of_blk h1;simp;omega) (hne b cs T hT h1)).trans ((Below.heap_alloc _ _ _ (lt_of_blk h1)).trans h1)
 have hp:=hk po _ 24 (by decide) hpo
 have hrt:=hr.tag rg rfl
 obtain⟨cs,hcs⟩:=hrt
 have hrl:=lt_of_blk hcs
 refine⟨hp,?_,?_,?_,?_⟩
 ·exact((h.alloc o).snoc hg ho (hr.bytes.alloc o) (by have:=(hr.lt rg rfl).1;omega) ⟨cs,(Below.heap_alloc _ _ _ hrl).trans hcs⟩).set_ne hpb v'
 ·rw[heap_setCell_at hp];rfl
 ·intro wq hbu hwb
  have hb:=hbu.below
  have hz:=hb.size
  refine⟨?_,fun b h1 h2=>?_⟩
  rotate_left
  ·rw[Below.heap_setCell _ _ _ _ h2,hg.block b (by simp;omega) (fun e=>by have:=(World.ownsRow.lt h.own b e.symm).1;omega),Below.heap_alloc _ _ _ (by omega)]
   exact hbu.rest b h1 h2
  exact((hb.alloc (by have:=lt_of_blk hpo;omega) o).grown hg (by have:=lt_of_blk hpo;simp;omega) (fun g e=>by have:=(World.ownsRow.lt h.own g e).1;omega)).setCell (Nat.le_refl _) v'
 ·intro b W H bm hm
  have h1:=hk b _ 101 (by decide) hm.blk
  have h2:w'.heap[b-1]? =_:=hk (b-1) _ 102 (by decide) hm.row
  have hb1:b≠po:=by
   intro e;have:=hm.blk;rw[e,hpo]at this;injection this with this;injection this with _ this;exact absurd this (by decide)
  have hb2:b-1≠po:=by
   intro e;have:wr.heap[b-1]? =_:=hm.row;rw[e,hpo]at this;injection this with this;injection this with _ this;exact absurd this (by decide)
  exact⟨(Below.heap_setCell _ _ _ _ hb1).trans h1,(Below.heap_setCell _ _ _ _ hb2).trans h2,hm.pos,hm.len⟩
def bitN (b:Bool):Nat:=if b then 1 else 0
def rowT (sw:Nat) (T:Nat→Nat→Int) (y:Nat):List Nat:=(List.range sw).map fun x=>bitN (T y x==1)
def matT (sw sh:Nat) (T:Nat→Nat→Int):List (List Nat):=(List.range sh).map (rowT sw T)
@[simp] theorem matT_len (sw sh:Nat) (T:Nat→Nat→Int):(matT sw sh T).length=sh:=by simp[matT]
theorem matT_succ (sw k:Nat) (T:Nat→Nat→Int):matT sw (k+1) T=matT sw k T++[rowT sw T k]:=by simp[matT,List.range_succ]
def rowTo (T:Nat→Nat→Int) (y k:Nat):List Nat:=(List.range k).map fun x=>bitN (T y x==1)
@[simp] theorem rowTo_len (T:Nat→Nat→Int) (y k:Nat):(rowTo T y k).length=k:=by simp[rowTo]
theorem rowTo_succ (T:Nat→Nat→Int) (y k:Nat) {b:Nat} (h:bitN (T y k==1)=b):rowTo T y k++[b]=rowTo T y (k+1):=by simp[rowTo,List.range_succ,h]
theorem getH_calls {w:World} {b:Nat} {v:Value} (h:w.cell? ⟨b,1,none⟩=some v):Calls Tryz.prog 31 #[.pointer (some ⟨b,0,none⟩)] w fun e w'=>e= .returned v∧w=w':=by
 go_enter Tryz.func31,Tryz.ntmps31
 go_wp2
 go_ret
 exact⟨rfl,rfl⟩
theorem getW_calls {w:World} {b:Nat} {v:Value} (h:w.cell? ⟨b,0,none⟩=some v):Calls Tryz.prog 32 #[.pointer (some ⟨b,0,none⟩)] w fun e w'=>e= .returned v∧w=w':=by
 go_enter Tryz.func32,Tryz.ntmps32
 go_wp2
 go_ret
 exact⟨rfl,rfl⟩
def EncR (po base sw sh:Nat) (T:Nat→Nat→Int) (wq:World) (b:Bool) (w':World):Prop:=
 b=true∧∃v gs,RowsM w' base v gs (matT sw sh T)∧w'.heap[po]? =some (.cells #[v] 24)∧But po wq w'
def EncIn (po base sw sh:Nat) (T:Nat→Nat→Int) (wq:World) (e:Ending) (w':World):Prop:=∃b,e= .returned (.bool b)∧EncR po base sw sh T wq b w'
theorem EncIn.of {po base sw sh:Nat} {T:Nat→Nat→Int} {wq w':World} {v:Value} {gs:List (Nat×Nat)} (h:RowsM w' base v gs (matT sw sh T)) (h1:w'.heap[po]? =some (.cells #[v] 24)) (h2:But po wq w'):
 EncIn po base sw sh T wq (.returned (.bool true)) w':=⟨true,rfl,rfl,v,gs,h,h1,h2⟩
set_option maxRecDepth 100000 in
set_option maxHeartbeats 4000000 in
theorem encClo_calls {wq:World} {pt ps po shape sw sh mw mh dw:Nat} {s:ByteArray} {bits:List Int} (hpt:wq.cell? ⟨pt,0,none⟩=some (.string s)) (hps:wq.cell? ⟨ps,0,none⟩=some (.int .i64 shape))
 (hpo:wq.heap[po]? =some (.cells #[.slice none 0 0] 24)) (h30:Calls Tryz.prog 30 #[.string s,.int .i64 shape] wq (WritePost sw sh mw mh dw bits wq)) (hw:sw≤1000) (hh:sh≤1000) (hw0:1≤sw):
 Calls Tryz.prog 29 #[.pointer (some ⟨pt,0,none⟩),.pointer (some ⟨ps,0,none⟩),.pointer (some ⟨po,0,none⟩)] wq (EncIn po wq.heap.size sw sh (modT mw mh dw bits) wq):=by
 have HPO:=Lib.hid hpo
 have H30:=Lib.hid h30
 have hpl:=lt_of_blk hpo
 clear hpo h30
 generalize hT:modT mw mh dw bits=T
 have HT:=Lib.hid hT
 clear hT
 go_enter Tryz.func29,Tryz.ntmps29
 go_wp2_with (first|(go_at_call 30;refine H30.out.mono ?_;rintro e w1 ⟨b,bm,hb0,rfl,hbm,hsm,hpx,hbl⟩;have k0:=hbm.k0;have k1:=hbm.k1;have HBM:=Lib.hid hbm;have HSM:=Lib.hid hsm;have HPX:=Lib.hid hpx;have HBL:=Lib.hid hbl;clear hbm hsm hpx hbl)|(go_at_call 31;refine(getH_calls k1).mono ?_;rintro e w2 ⟨rfl,rfl⟩))
 rw[HT.out]at HPX
 clear k0 k1
 go_loopw [19] (fun i wr=>∃k:Nat,k≤sh∧i= .int .i64 k∧∃v gs,Hid (RowsM wr wq.heap.size v gs (matT sw k T))∧Hid (wr.heap[po]? =some (.cells #[v] 24))∧Hid (But po wq wr)∧Hid (BitM wr b sw sh bm)) (fun i _=>sh-(intOf i).toNat)
 case atStart=>
  exact⟨0,by omega,rfl,_,[],RowsM.nil _ _,(HBL.out.block _ hpl).trans HPO.out,But.of HBL.out hpl,HBM.out⟩
 case round=>
  obtain⟨k,hk,rfl,v,gs,h1,h2,h3,h4⟩:=hrel
  by_cases hlt:k<sh
  ·have k0:=h4.out.k0
   go_wp2_with (first|(go_at_call 32;refine(getW_calls k0).mono ?_;rintro e w2 ⟨rfl,rfl⟩))
   clear k0
   obtain⟨wo,rfl⟩:∃wo:World,wo=wr:=⟨_,rfl⟩
   go_loopw [24,7] (fun x row wi=>∃j:Nat,j≤sw∧x= .int .i64 j∧Hid (Own wi wo.heap.size .u8 5 row (rowTo T k j))∧Hid (Below wo.heap.size wo wi)) (fun x _ _=>sw-(intOf x).toNat)
   case atStart=>exact⟨0,by omega,rfl,Own.nil _ _ _ _,Below.refl _ _⟩
   case round=>
    obtain⟨j,hj,rfl,ho,hb⟩:=hrel
    have hbm:=h4.out.below hb.out (lt_of_blk h4.out.blk)
    have HBMi:=Lib.hid hbm
    clear hbm
    by_cases hjl:j<sw
    ·cases hpv:pixel sw bm j k
     all_goals
      have HPV:=Lib.hid hpv
      clear hpv
      have hbt:=HPX.out j k hjl hlt
      rw[HPV.out]at hbt
     ·have hsn:=rowTo_succ T k j (b:=0) (by rw[←hbt];rfl)
      have HSN:=Lib.hid hsn
      clear hsn hbt
      have g33:=getBits_calls HBMi.out HSM.out j k hjl hlt hw hh
      rw[HPV.out]at g33
      go_wp2_with (first|(go_at_call 33;refine g33.mono ?_;rintro e w2 ⟨rfl,rfl⟩;clear g33)|(refine app49 rfl (.tmp 34) (.tmp 35) rfl wo.heap.size _ (rowTo T k j) rfl (ho.out.alloc _) _ 1 1 [0] rfl rfl (Bytes.one rfl) (by simp;omega) (by have:=hb.out.size;simp;omega) ?_;intro v' w' ho2 hg hne;rw[HSN.out]at ho2;have HO:=Lib.hid ho2;have HB:=Lib.hid ((hb.out.alloc hb.out.size _).grown hg (by have:=hb.out.size;simp;omega) (fun g2 e=>(ho.out.lt g2 e).1));clear ho2 hg hne))
      exact⟨⟨j+1,by omega,by go_num,HO,HB⟩,by simp[intOf];omega⟩
     ·have hsn:=rowTo_succ T k j (b:=1) (by rw[←hbt];rfl)
      have HSN:=Lib.hid hsn
      clear hsn hbt
      have g33:=getBits_calls HBMi.out HSM.out j k hjl hlt hw hh
      rw[HPV.out]at g33
      go_wp2_with (first|(go_at_call 33;refine g33.mono ?_;rintro e w2 ⟨rfl,rfl⟩;clear g33)|(refine app49 rfl (.tmp 31) (.tmp 32) rfl wo.heap.size _ (rowTo T k j) rfl (ho.out.alloc _) _ 1 1 [1] rfl rfl (Bytes.one rfl) (by simp;omega) (by have:=hb.out.size;simp;omega) ?_;intro v' w' ho2 hg hne;rw[HSN.out]at ho2;have HO:=Lib.hid ho2;have HB:=Lib.hid ((hb.out.alloc hb.out.size _).grown hg (by have:=hb.out.size;simp;omega) (fun g2 e=>(ho.out.lt g2 e).1));clear ho2 hg hne))
      exact⟨⟨j+1,by omega,by go_num,HO,HB⟩,by simp[intOf];omega⟩
    ·obtain rfl:sw=j:=by omega
     have hsz:=h3.out.size
     have hszi:=hb.out.size
     obtain⟨rg,rcap,hv⟩:=ho.out.slice (by simp;omega)
     rw[rowTo_len]at hv
     subst hv
     have hpo2:=(hb.out.block po (lt_of_blk h2.out)).trans h2.out
     have cpo:wr.cell? ⟨po,0,none⟩=some v:=(cell_blk hpo2 0).trans rfl
     have HPO2:=Lib.hid hpo2
     have hrm:=h1.out.below hb.out (Nat.le_refl _)
     have HRM:=Lib.hid hrm
     have hown:=hrm.own
     rw[matT_len]at hown
     have HOWN:=Lib.hid hown
     have HLN:=Lib.hid (show k=(rv gs (matT sw k T)).length by rw[rv_len hrm.len,matT_len])
     have H3:=Lib.hid (h3.out.trans hb.out hsz hpl)
     clear hpo2 hrm hown
     go_wp2_with (first|(refine app24 rfl (.tmp 38) (.tmp 40) rfl wq.heap.size v k (rv gs (matT sw k T)) rfl (HOWN.out.alloc _) HLN.out _ 1 _ rfl (by rw[cell_blk (new_last rfl _)];rfl) rfl (by omega) (by simp;omega) ?_;intro v' w' ho2 hg;obtain⟨gv,cv,rfl⟩:=own_slice ho2 (by omega);have HP:=Lib.hid (push_row (r:=rowTo T k sw) HRM.out HPO2.out hpl (by rw[rowTo_len];exact ho.out) (by omega) hg (by rw[matT_len,rowTo_len];exact ho2));have kp:w'.cell? ⟨po,0,none⟩=some v:=(cell_blk HP.out.1 0).trans rfl;have fp:=frozen_blk HP.out.1 0;clear ho2 hg))
     have hp:=HP.out
     exact⟨⟨k+1,by omega,by go_num,_,_,by rw[matT_succ];exact hp.2.1,hp.2.2.1,hp.2.2.2.1 _ H3.out (Nat.le_refl _),hp.2.2.2.2 _ _ _ _ HBMi.out⟩,by simp[intOf];omega⟩
  ·obtain rfl:sh=k:=by omega
   go_wp2
   go_ret
   exact EncIn.of h1.out h2.out h3.out
end
section
open Go.RowKit
theorem shapesOk_calls {sh:Nat} (hs:sh<3) (w:World):Calls Tryz.prog 27 #[.int .i64 sh] w fun e w'=>e= .returned (.tuple #[.int .i64 sh,.bool true])∧Below w.heap.size w w':=
 (shapes_calls sh w).mono fun e w' ⟨h,hb⟩=>by
   rcases h with⟨_,_,h⟩|⟨h,_⟩
   ·exact⟨h,hb⟩
   ·exact absurd (by omega) h
theorem enter29 (a b c:Value):∀w,(callFunc 29 #[a,b,c]).run Tryz.prog w= .ok (.enter 29 #[a,b,c]) w:=fun _=>by kernel_rfl
def EncodePost (sw sh:Nat) (T:Nat→Nat→Int) (w:World) (e:Ending) (w':World):Prop:=
 ∃v gs,e= .returned (.tuple #[v,.bool true])∧RowsM w' w.heap.size v gs (matT sw sh T)∧Below w.heap.size w w'
theorem RowsM.base {w:World} {base b2:Nat} {v:Value} {gs:List (Nat×Nat)} {rows:List (List Nat)} (h:RowsM w base v gs rows) (hb:b2≤base):RowsM w b2 v gs rows:=by
 refine⟨h.len,?_,fun i hi=>by
  obtain⟨h1,h2,h3⟩:=h.row i hi
  exact⟨h1,by omega,h3⟩⟩
 obtain⟨h1,h2⟩:=h.own
 refine⟨h1,?_⟩
 rcases h2 with h|⟨g,cap,cur,rfl,a2,a3,a4,a5,a6⟩
 ·exact .inl h
 ·exact .inr ⟨g,cap,cur,rfl,by omega,a3,a4,a5,a6⟩
def EncTry (po sw sh:Nat) (T:Nat→Nat→Int) (w:World) (e:Ending) (w':World):Prop:=
 ∃v gs B,e= .returned (.bool true)∧po<B∧w'.heap[po]? =some (.cells #[v] 24)∧RowsM w' B v gs (matT sw sh T)∧Below w.heap.size w w'
theorem enc_try {w w1 w3:World} {s:ByteArray} {pt ps po shape sw sh mw mh dw:Nat} {bits:List Int} (h30:∀w,Calls Tryz.prog 30 #[.string s,.int .i64 shape] w (WritePost sw sh mw mh dw bits w)) (hw:sw≤1000) (hh:sh≤1000) (hw0:1≤sw) (hh0:1≤sh)
 (hpt:w3.heap[pt]? =some (.cells #[.string s] 9)) (hpo:w3.heap[po]? =some (.cells #[.slice none 0 0] 24)) (hps:w3.heap[ps]? =some (.cells #[.int .i64 shape] 55)) (hb:Below w.heap.size w w3) (hwp:w.heap.size≤po):
 Calls Tryz.prog 28 #[.func (.func 29) #[] #[.pointer (some ⟨pt,0,none⟩),.pointer (some ⟨ps,0,none⟩),.pointer (some ⟨po,0,none⟩)]] w3 (EncTry po sw sh (modT mw mh dw bits) w):=by
 have lt:=lt_of_blk hpt
 have lo:=lt_of_blk hpo
 have ls:=lt_of_blk hps
 have k1:(w3.alloc (.cells #[.bool false] 4)).heap[po]? =_:=(Below.heap_alloc _ _ _ lo).trans hpo
 refine(try_calls (R:=fun b w'=>EncR po (w3.heap.size+1) sw sh (modT mw mh dw bits) (w3.alloc (.cells #[.bool false] 4)) b w') (enter29 _ _ _) ((encClo_calls (s:=s) (shape:=shape) (bits:=bits) (by rw[cell_blk ((Below.heap_alloc _ _ _ lt).trans hpt)];rfl) (by rw[cell_blk ((Below.heap_alloc _ _ _ ls).trans hps)];rfl) k1 (h30 _) hw hh hw0).mono ?_)).mono ?_
 ·rintro e w' ⟨b,rfl,hr⟩
  have hr':EncR po (w3.heap.size+1) sw sh (modT mw mh dw bits) (w3.alloc (.cells #[.bool false] 4)) b w':=by simpa using hr
  refine⟨b,rfl,?_,hr'⟩
  obtain⟨_,v,gs,_,_,hbut⟩:=hr
  exact(hbut.rest _ (by simp) (by omega)).trans (new_last rfl _)
 ·rintro e w'' ⟨b,w2,rfl,hr,rfl⟩
  obtain⟨rfl,v,gs,h1,h2,hbut⟩:=hr
  refine⟨v,gs,w3.heap.size+1,rfl,by omega,?_,h1.set_ne (by simp) _,?_⟩
  ·rw[Below.heap_setCell _ _ _ _ (by simp;omega)];exact h2
  ·have hz:=hb.size
   exact((hb.alloc hz _).trans (hbut.below.mono hwp)).setCell (by simpa using hz) _
set_option maxRecDepth 100000 in
set_option maxHeartbeats 4000000 in
theorem encode_calls {w:World} {s:ByteArray} {shape sw sh mw mh dw:Nat} {bits:List Int} (hs:shape<3)
 (h30:∀w,Calls Tryz.prog 30 #[.string s,.int .i64 shape] w (WritePost sw sh mw mh dw bits w)) (hw:sw≤1000) (hh:sh≤1000) (hw0:1≤sw) (hh0:1≤sh):
 Calls Tryz.prog 10 #[.string s,.int .i64 shape] w (EncodePost sw sh (modT mw mh dw bits) w):=by
 have hmf:∀(fn:Fn) (first cap:Array Value) (w:World),(Instr.makeFunc fn first cap).run Tryz.prog w= .ok (.func fn first cap) w:=fun _ _ _ _=>rfl
 have b0:Below w.heap.size w ((w.alloc (.cells #[.string s] 9)).alloc (.cells #[.slice none 0 0] 24)):=((Below.refl _ _).alloc (Nat.le_refl _) _).alloc (by simp) _
 have c1:((w.alloc (.cells #[.string s] 9)).alloc (.cells #[.slice none 0 0] 24)).heap[w.heap.size]? =some (.cells #[.string s] 9):=(Below.heap_alloc _ _ _ (by simp)).trans (new_last rfl _)
 have c2:((w.alloc (.cells #[.string s] 9)).alloc (.cells #[.slice none 0 0] 24)).heap[w.heap.size+1]? =some (.cells #[.slice none 0 0] 24):=new_last (by simp) _
 have B0:=Lib.hid b0
 have C1:=Lib.hid c1
 have C2:=Lib.hid c2
 clear b0 c1 c2
 go_enter Tryz.func10,Tryz.ntmps10
 go_wp2_with (first|(go_at_call 27;refine(shapesOk_calls hs _).mono ?_;rintro e w1 ⟨rfl,hb⟩;have hz:=hb.size;simp only[alloc_heap,Array.size_push]at hz;have D1:=Lib.hid ((Below.heap_alloc w1 (.cells #[.int .i64 shape] 55) _ (by omega)).trans ((hb.block _ (by simp;omega)).trans C1.out));have D2:=Lib.hid ((Below.heap_alloc w1 (.cells #[.int .i64 shape] 55) _ (by omega)).trans ((hb.block _ (by simp)).trans C2.out));have DB:=Lib.hid ((B0.out.trans (hb.mono (by simp;omega))).alloc (by omega) (.cells #[.int .i64 shape] 55));clear hb)|(go_at_call 28;refine(enc_try (pt:=w.heap.size) (ps:=w1.heap.size) (po:=w.heap.size+1) (w1:=w1) h30 hw hh hw0 hh0 D1.out D2.out (new_last rfl _) DB.out (by omega)).mono ?_;rintro e w4 ⟨v,gs,B,rfl,hpB,hpo,hr,hb4⟩;obtain⟨gv,cv,rfl⟩:=own_slice hr.own (by simp;omega);rw[matT_len]at hpo hr;have k:w4.cell? ⟨w.heap.size+1,0,none⟩=some (.slice (some ⟨gv,0,none⟩) sh cv):=(cell_blk hpo 0).trans rfl;have f:=frozen_blk hpo 0;have HPO:=Lib.hid hpo;have HR:=Lib.hid hr;have HB4:=Lib.hid hb4;clear hpo hr hb4))
 have k2:(w4.setCell ⟨w.heap.size+1,0,none⟩ (.slice (some ⟨gv,0,none⟩) sh cv)).cell? ⟨w.heap.size+1,0,none⟩=some (.slice (some ⟨gv,0,none⟩) sh cv):=by rw[cell_blk (heap_setCell_at HPO.out 0 _)];rfl
 refine bodyPost_ret (v:= .tuple #[.slice (some ⟨gv,0,none⟩) sh cv,.bool true]) (by simp[results,Tryz.results10,go_sem,k2]) rfl ⟨_,gs,rfl,?_,HB4.out.setCell (by simp) _⟩
 exact(HR.out.set_ne hpB _).base (by omega)
def LenPost (n:Nat) (w:World) (e:Ending) (w':World):Prop:=∃g cap,e= .returned (.tuple #[.slice (some ⟨g,0,none⟩) n cap,.bool true])∧Below w.heap.size w w'
theorem EncodePost.len {sw sh:Nat} {T:Nat→Nat→Int} {w w':World} {e:Ending} (h:EncodePost sw sh T w e w') (h1:1≤sh):LenPost sh w e w':=by
 obtain⟨v,gs,rfl,hr,hb⟩:=h
 obtain⟨g,cap,rfl⟩:=own_slice hr.own (by simp;omega)
 exact⟨g,cap,by rw[matT_len],hb⟩
theorem enc6 (w:World):Calls Tryz.prog 10 #[.string ⟨#[49,50,51,52,53,54]⟩,.int .i64 0] w (LenPost 10 w):=by
 obtain⟨bits,h⟩:=write6
 exact(encode_calls (shape:=0) (s:=s6) (by omega) h (by omega) (by omega) (by omega) (by omega)).mono fun e w' h=>h.len (by omega)
theorem works_calls (w:World):Calls Tryz.prog 9 #[] w fun e w'=>e= .returned (.bool true)∧Below w.heap.size w w':=by
 go_enter Tryz.func9,Tryz.ntmps9
 go_wp2_with (go_at_call 10;refine(enc6 _).mono ?_;rintro e w1 ⟨g,cap,rfl,hb⟩;have HB:=Lib.hid hb;clear hb)
 go_ret
 exact⟨rfl,HB.out⟩
end
end Go.Proofs.YtcnallabiffemaaGreatDoor
