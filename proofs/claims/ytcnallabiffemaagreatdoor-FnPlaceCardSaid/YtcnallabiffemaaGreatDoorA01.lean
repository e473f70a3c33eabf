/- The errors of the package: values of an interface that are not nil. -/
import Derived.Test.YtcnallabiffemaaGreatDoorA0
import Derived.Laws.ResultCell
set_option linter.unusedVariables false
set_option linter.unusedSimpArgs false
namespace Go.Proofs.YtcnallabiffemaaGreatDoor
open Go.RowKit

theorem newExc_calls (s : ByteArray) (v : Value) (w : World) :
    Calls Tryz.prog 114 #[.string s, v] w fun en w' => en = .returned (.agg #[.string s]) ∧ Below w.heap.size w w' := by
  go_enter Tryz.func114, Tryz.ntmps114
  go_wp2
  refine bodyPost_ret (v := .agg #[.string s]) ?_ rfl ⟨rfl, ?_⟩
  · simp [results, Tryz.results114, go_sem]
  · exact (Below.refl _ _).alloc (Nat.le_refl _) _

theorem wrapExc_calls (s : ByteArray) (v : Value) (w : World) :
    Calls Tryz.prog 131 #[.string s, v] w fun en w' => en = .returned (.agg #[.string s]) ∧ Below w.heap.size w w' := by
  go_enter Tryz.func131, Tryz.ntmps131
  go_wp2
  refine bodyPost_ret (v := .agg #[.string s]) ?_ rfl ⟨rfl, ?_⟩
  · simp [results, Tryz.results131, go_sem]
  · exact (Below.refl _ _).alloc (Nat.le_refl _) _

/-- an error that is there -/
def IsErr (v : Value) : Prop := ∃ T x, v = .iface T x

theorem newWE_calls (v : Value) (w : World) :
    Calls Tryz.prog 62 #[v] w fun en w' => ∃ x, en = .returned (.iface 149 x) ∧ Below w.heap.size w w' := by
  go_enter Tryz.func62, Tryz.ntmps62
  go_wp2_with (go_at_call 114; refine (newExc_calls _ _ _).mono ?_; rintro e w' ⟨rfl, hb⟩)
  go_ret
  exact ⟨_, rfl, hb⟩

theorem wrapWE_calls (v : Value) (w : World) :
    Calls Tryz.prog 94 #[v] w fun en w' => ∃ x, en = .returned (.iface 149 x) ∧ Below w.heap.size w w' := by
  go_enter Tryz.func94, Tryz.ntmps94
  go_wp2_with (go_at_call 131; refine (wrapExc_calls _ _ _).mono ?_; rintro e w' ⟨rfl, hb⟩)
  go_ret
  exact ⟨_, rfl, hb⟩
end Go.Proofs.YtcnallabiffemaaGreatDoor
