/- The reference's table of symbols, and the shapes. -/
import Derived.Test.YtcnallabiffemaaGreatDoorZb
import Derived.Outline
set_option linter.unusedVariables false
set_option linter.unusedSimpArgs false
namespace Go.Proofs.YtcnallabiffemaaGreatDoor
open Go.RowKit
def syTab:List (List Nat):=[
 [10,10,1,1,3,5,1],
 [12,12,1,1,5,7,1],
 [14,14,1,1,8,10,1],
 [16,16,1,1,12,12,1],
 [18,18,1,1,18,14,1],
 [20,20,1,1,22,18,1],
 [22,22,1,1,30,20,1],
 [24,24,1,1,36,24,1],
 [26,26,1,1,44,28,1],
 [32,32,2,2,62,36,1],
 [36,36,2,2,86,42,1],
 [40,40,2,2,114,48,1],
 [44,44,2,2,144,56,1],
 [48,48,2,2,174,68,1],
 [52,52,2,2,204,84,2],
 [64,64,4,4,280,112,2],
 [72,72,4,4,368,144,4],
 [80,80,4,4,456,192,4],
 [88,88,4,4,576,224,4],
 [96,96,4,4,696,272,4],
 [104,104,4,4,816,336,6],
 [120,120,6,6,1050,408,6],
 [132,132,6,6,1304,496,8],
 [8,18,1,1,5,7,1],
 [8,32,1,2,10,11,1],
 [12,26,1,1,16,14,1],
 [12,36,1,2,22,18,1],
 [16,36,1,2,32,24,1],
 [16,48,1,2,49,28,1]]
def syAt (i:Nat):List Nat:=syTab.getD i []
def syN (i k:Nat):Nat:=(syAt i).getD k 0
def syInts:List Int:=(syTab.flatten).map Int.ofNat
def syV (i:Nat):Value:= .agg #[.int .i64 (syN i 0),.int .i64 (syN i 1),.int .i64 (syN i 2),.int .i64 (syN i 3),.int .i64 (syN i 4),.int .i64 (syN i 5),.int .i64 (syN i 6)]
def symParts:Array (Nat×Value):= #[(0,.agg #[.int .i64 10,.int .i64 10,.int .i64 1,.int .i64 1,.int .i64 3,.int .i64 5,.int .i64 1]),
    (1,.agg #[.int .i64 12,.int .i64 12,.int .i64 1,.int .i64 1,.int .i64 5,.int .i64 7,.int .i64 1]),
    (2,.agg #[.int .i64 14,.int .i64 14,.int .i64 1,.int .i64 1,.int .i64 8,.int .i64 10,.int .i64 1]),
    (3,.agg #[.int .i64 16,.int .i64 16,.int .i64 1,.int .i64 1,.int .i64 12,.int .i64 12,.int .i64 1]),
    (4,.agg #[.int .i64 18,.int .i64 18,.int .i64 1,.int .i64 1,.int .i64 18,.int .i64 14,.int .i64 1]),
    (5,.agg #[.int .i64 20,.int .i64 20,.int .i64 1,.int .i64 1,.int .i64 22,.int .i64 18,.int .i64 1]),
    (6,.agg #[.int .i64 22,.int .i64 22,.int .i64 1,.int .i64 1,.int .i64 30,.int .i64 20,.int .i64 1]),
    (7,.agg #[.int .i64 24,.int .i64 24,.int .i64 1,.int .i64 1,.int .i64 36,.int .i64 24,.int .i64 1]),
    (8,.agg #[.int .i64 26,.int .i64 26,.int .i64 1,.int .i64 1,.int .i64 44,.int .i64 28,.int .i64 1]),
    (9,.agg #[.int .i64 32,.int .i64 32,.int .i64 2,.int .i64 2,.int .i64 62,.int .i64 36,.int .i64 1]),
    (10,.agg #[.int .i64 36,.int .i64 36,.int .i64 2,.int .i64 2,.int .i64 86,.int .i64 42,.int .i64 1]),
    (11,.agg #[.int .i64 40,.int .i64 40,.int .i64 2,.int .i64 2,.int .i64 114,.int .i64 48,.int .i64 1]),
    (12,.agg #[.int .i64 44,.int .i64 44,.int .i64 2,.int .i64 2,.int .i64 144,.int .i64 56,.int .i64 1]),
    (13,.agg #[.int .i64 48,.int .i64 48,.int .i64 2,.int .i64 2,.int .i64 174,.int .i64 68,.int .i64 1]),
    (14,.agg #[.int .i64 52,.int .i64 52,.int .i64 2,.int .i64 2,.int .i64 204,.int .i64 84,.int .i64 2]),
    (15,.agg #[.int .i64 64,.int .i64 64,.int .i64 4,.int .i64 4,.int .i64 280,.int .i64 112,.int .i64 2]),
    (16,.agg #[.int .i64 72,.int .i64 72,.int .i64 4,.int .i64 4,.int .i64 368,.int .i64 144,.int .i64 4]),
    (17,.agg #[.int .i64 80,.int .i64 80,.int .i64 4,.int .i64 4,.int .i64 456,.int .i64 192,.int .i64 4]),
    (18,.agg #[.int .i64 88,.int .i64 88,.int .i64 4,.int .i64 4,.int .i64 576,.int .i64 224,.int .i64 4]),
    (19,.agg #[.int .i64 96,.int .i64 96,.int .i64 4,.int .i64 4,.int .i64 696,.int .i64 272,.int .i64 4]),
    (20,.agg #[.int .i64 104,.int .i64 104,.int .i64 4,.int .i64 4,.int .i64 816,.int .i64 336,.int .i64 6]),
    (21,.agg #[.int .i64 120,.int .i64 120,.int .i64 6,.int .i64 6,.int .i64 1050,.int .i64 408,.int .i64 6]),
    (22,.agg #[.int .i64 132,.int .i64 132,.int .i64 6,.int .i64 6,.int .i64 1304,.int .i64 496,.int .i64 8]),
    (23,.agg #[.int .i64 8,.int .i64 18,.int .i64 1,.int .i64 1,.int .i64 5,.int .i64 7,.int .i64 1]),
    (24,.agg #[.int .i64 8,.int .i64 32,.int .i64 1,.int .i64 2,.int .i64 10,.int .i64 11,.int .i64 1]),
    (25,.agg #[.int .i64 12,.int .i64 26,.int .i64 1,.int .i64 1,.int .i64 16,.int .i64 14,.int .i64 1]),
    (26,.agg #[.int .i64 12,.int .i64 36,.int .i64 1,.int .i64 2,.int .i64 22,.int .i64 18,.int .i64 1]),
    (27,.agg #[.int .i64 16,.int .i64 36,.int .i64 1,.int .i64 2,.int .i64 32,.int .i64 24,.int .i64 1]),
    (28,.agg #[.int .i64 16,.int .i64 48,.int .i64 1,.int .i64 2,.int .i64 49,.int .i64 28,.int .i64 1])]
set_option maxRecDepth 100000 in
theorem build_syms (w:World):(Instr.buildSlice 38 29 symParts).run Tryz.prog w= .ok (.slice (some ⟨w.heap.size,0,none⟩) 29 29) (w.alloc (.cells (irow .i64 syInts) 30)):=by kernel_rfl
theorem wpList_buildS {P:Program} {ops:Array Oper} {rest:List Oper} {o:Oper} {a:Act} {w w':World} {Q:Exit→Act→World→Prop} {v:Value} (hg:o.guard=none) (t:TypeId) (len:Nat) (parts:Array (Nat×Operand)) (ho:o.op= .buildSlice t len parts)
 (ps:Array (Nat×Value)) (hp:(parts.map fun(i,x)=>(i,a.eval x))=ps) (hrun:(Instr.buildSlice t len ps).run P w= .ok v w') (h:wpList P ops Q rest (a.put o.dst v) w'):wpList P ops Q (o::rest) a w:=
 wpList_plain hg fun _ hK=>by
  unfold Oper.wp execOp
  simp only[ho,Sem.run_bind,hp,hrun,Result.andThen_ok]
  exact hK _ _ h
set_option maxRecDepth 100000 in
set_option maxHeartbeats 4000000 in
theorem spSyms_any (w:World):
 Calls Tryz.prog 17 #[] w fun en w'=>
  en= .returned (.slice (some ⟨w.heap.size,0,none⟩) 29 29)∧w.alloc (.cells (irow .i64 syInts) 30)=w':=by
 go_enter Tryz.func17,Tryz.ntmps17
 go_wp2_with (refine wpList_buildS rfl 38 29 _ rfl symParts (by kernel_rfl) (build_syms _) ?_)
 go_ret
 exact⟨rfl,rfl⟩
theorem spSyms_calls (w:World):
 Calls Tryz.prog 17 #[] w fun en w'=>
  en= .returned (.slice (some ⟨w.heap.size,0,none⟩) 29 29)∧Row w' w.heap.size .i64 30 syInts∧Below w.heap.size w w'∧w.heap.size+1≤w'.heap.size:=
 (spSyms_any w).mono fun e w' ⟨he,hw⟩=>by
   subst hw
   exact⟨he,Row.new _ _ _ _,(Below.refl _ _).alloc (Nat.le_refl _) _,by simp⟩
theorem sy_get:∀i,i<29→∀k,k<7→syInts.getD (i*7+k) 0=(syN i k:Int):=by decide+kernel
theorem sy_cell {w:World} {B:Nat} (h:Row w B .i64 30 syInts) {i:Nat} (hi:i<29) (k:Nat) (hk:k<7):w.cell? ⟨B,i*7+k,none⟩=some (.int .i64 (syN i k)):=by
 have hl:syInts.length=203:=by decide+kernel
 rw[Row.cell h (by rw[hl];omega),sy_get i hi k hk]
def shapedB (r c shape:Nat):Bool:=shape==0||((shape==1)==(r==c))
def ShapesPost (n:Int) (w:World) (e:Ending) (w':World):Prop:=
 ((0≤n∧n<3∧e= .returned (.tuple #[.int .i64 n,.bool true]))∨(¬(0≤n∧n<3)∧e= .returned (.tuple #[.int .i64 0,.bool false])))∧Below w.heap.size w w'
theorem shapes_calls (n:Int) (w:World):Calls Tryz.prog 27 #[.int .i64 n] w (ShapesPost n w):=by
 by_cases h0:0≤n
 ·by_cases h3:n<3
  ·rcases(by omega:n=0∨n=1∨n=2)with rfl|rfl|rfl
   all_goals
    go_enter Tryz.func27,Tryz.ntmps27
    go_wp2
    go_ret2
    exact⟨.inl ⟨by omega,by omega,rfl⟩,(Below.refl _ _).alloc (Nat.le_refl _) _⟩
  ·have h3':(3:Int)≤n:=by omega
   go_enter Tryz.func27,Tryz.ntmps27
   go_wp2
   go_ret2
   exact⟨.inr ⟨by omega,rfl⟩,(Below.refl _ _).alloc (Nat.le_refl _) _⟩
 ·have h0':n<0:=by omega
  go_enter Tryz.func27,Tryz.ntmps27
  go_wp2
  go_ret2
  exact⟨.inr ⟨by omega,rfl⟩,(Below.refl _ _).alloc (Nat.le_refl _) _⟩
end Go.Proofs.YtcnallabiffemaaGreatDoor
