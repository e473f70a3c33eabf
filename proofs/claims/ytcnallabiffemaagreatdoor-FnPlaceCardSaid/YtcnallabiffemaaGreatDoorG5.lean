/- The ASCII encoder at a pair of digits. -/
import Derived.Test.YtcnallabiffemaaGreatDoorG4
set_option linter.unusedVariables false
set_option linter.unusedSimpArgs false
namespace Go.Proofs.YtcnallabiffemaaGreatDoor
open Go.RowKit

set_option maxRecDepth 100000 in
theorem pair_calls {a b : Nat} (ha : isDig a = true) (hb : isDig b = true) (w : World) :
    Calls Tryz.prog 173 #[.int .u8 a, .int .u8 b] w fun e w' => e = .returned (.tuple #[.int .u8 (((a - 48) * 10 + (b - 48) + 130 : Nat) : Int), .nilIface]) ∧ w' = w := by
  have ha2 : 48 ≤ a ∧ a ≤ 57 := by simpa [isDig] using ha
  have hb2 : 48 ≤ b ∧ b ≤ 57 := by simpa [isDig] using hb
  obtain ⟨a1, a2⟩ := ha2
  obtain ⟨b1, b2⟩ := hb2
  have ai1 : (48 : Int) ≤ (a : Int) := by omega
  have ai2 : (a : Int) ≤ 57 := by omega
  have bi1 : (48 : Int) ≤ (b : Int) := by omega
  have bi2 : (b : Int) ≤ 57 := by omega
  go_enter Tryz.func173, Tryz.ntmps173
  have da := isDigT_calls ha
  have db := isDigT_calls hb
  clear ha hb
  go_wp2_with (first | (go_at_call_of 178 (Value.int .u8 (a : Int)); refine (da _).mono ?_; rintro e w' ⟨rfl, rfl⟩) | (go_at_call_of 178 (Value.int .u8 (b : Int)); refine (db _).mono ?_; rintro e w' ⟨rfl, rfl⟩))
  go_ret2
  refine ⟨?_, rfl⟩
  have e : (((a : Int) - 48) * 10 + ((b : Int) - 48) + 130) = (((a - 48) * 10 + (b - 48) + 130 : Nat) : Int) := by omega
  rw [← e]
  rfl
end Go.Proofs.YtcnallabiffemaaGreatDoor
