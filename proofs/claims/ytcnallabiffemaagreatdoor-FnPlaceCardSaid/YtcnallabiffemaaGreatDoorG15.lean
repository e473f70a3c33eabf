/- try: a function that neither fails nor panics. -/
import Derived.Test.YtcnallabiffemaaGreatDoorB0
import Derived.Defers
import Derived.Recover
import Derived.Outline
set_option linter.unusedVariables false
set_option linter.unusedSimpArgs false
namespace Go.Proofs.YtcnallabiffemaaGreatDoor
open Go.RowKit
theorem catch_idle (p : Addr) (w : World) :
    CallsD Tryz.prog 61 #[.pointer (some p)] .returning w fun e u' w' => e = .returned (.tuple #[]) ∧ u' = .returning ∧ w' = w := by
  refine callsD_of_wpS Tryz.func61 rfl fun c₀ cs hu => ?_
  apply wpS_seq
  apply wpS_region
  simp [wpOpsS, go_sem, recoverD, hu, Tryz.ntmps61, Exit.thenS]
  refine wpS_cond (t := false) (by simp [Act.eval, Array.replicate]) ?_
  simp only [Bool.false_eq_true, if_false]
  refine wpS_of_wp (wp_skip ?_)
  cases c₀
  simp_all [bodyPostS, results, Tryz.results61]

theorem lt_of_blk {w : World} {s : Nat} {o : Obj} (h : w.heap[s]? = some o) : s < w.heap.size := (Array.getElem?_eq_some_iff.1 h).1
def TryIn (b0 : Nat) (R : Bool → World → Prop) (e : Ending) (w' : World) : Prop := ∃ b, e = .returned (.bool b) ∧ w'.heap[b0]? = some (.cells #[.bool false] 4) ∧ R b w'
def TryPost (b0 : Nat) (R : Bool → World → Prop) (e : Ending) (w'' : World) : Prop := ∃ b w', e = .returned (.bool b) ∧ R b w' ∧ w'' = w'.setCell ⟨b0, 0, none⟩ (.bool b)

set_option maxRecDepth 100000 in
set_option maxHeartbeats 2000000 in
theorem try_calls {f : Nat} {caps : Array Value} {w : World} {R : Bool → World → Prop} (hen : ∀ w, (callFunc f caps).run Tryz.prog w = .ok (.enter f caps) w)
    (hF : Calls Tryz.prog f caps (w.alloc (.cells #[.bool false] 4)) (TryIn w.heap.size R)) :
    Calls Tryz.prog 28 #[.func (.func f) #[] caps] w (TryPost w.heap.size R) := by
  have hmf : ∀ (fn : Fn) (first cap : Array Value) (w : World), (Instr.makeFunc fn first cap).run Tryz.prog w = .ok (.func fn first cap) w := fun _ _ _ _ => rfl
  go_enter_defers Tryz.func28, Tryz.ntmps28
  go_wp2_with (refine hF.mono ?_; rintro e w1 ⟨b, rfl, hk, hR⟩; have k0 := cell_blk hk 0; have f0 := frozen_blk hk 0; have HR := Lib.hid hR; clear hR hF)
  refine leaves_cons (f := 61) (args := #[.pointer (some ⟨w.heap.size, 0, none⟩)]) (by simp) (by simp [go_sem]) ?_
  refine (catch_idle ⟨w.heap.size, 0, none⟩ _).mono ?_
  rintro e u' w'' ⟨rfl, rfl, rfl⟩
  have hk2 : (w1.setCell ⟨w.heap.size, 0, none⟩ (.bool b)).cell? ⟨w.heap.size, 0, none⟩ = some (.bool b) := by rw [cell_blk (heap_setCell_at hk 0 (.bool b))]; rfl
  simp [Leaves, settle, results, Tryz.results28, go_sem, hk2]
  exact ⟨b, w1, rfl, HR.out, rfl⟩
end Go.Proofs.YtcnallabiffemaaGreatDoor
