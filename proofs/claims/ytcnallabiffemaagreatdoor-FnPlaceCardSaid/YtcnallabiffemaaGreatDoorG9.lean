/- The macro heads: a text that does not begin with one. -/
import Derived.Test.YtcnallabiffemaaGreatDoorG8
set_option linter.unusedVariables false
set_option linter.unusedSimpArgs false
namespace Go.Proofs.YtcnallabiffemaaGreatDoor
open Go.RowKit

def noHead (s : ByteArray) : Prop := ((s.extract 0 7).toList == [91, 41, 62, 30, 48, 53, 29]) = false ∧ ((s.extract 0 7).toList == [91, 41, 62, 30, 48, 54, 29]) = false

set_option maxRecDepth 100000 in
theorem head5_calls {w : World} {s : ByteArray} (h : noHead s) :
    Calls Tryz.prog 127 #[.string s, .string ⟨#[91, 41, 62, 30, 48, 53, 29]⟩] w fun e w' => e = .returned (.bool false) ∧ w' = w := by
  have h5 := h.1
  clear h
  by_cases hz : (7 : Int) ≤ (s.size : Int)
  · go_enter Tryz.func127, Tryz.ntmps127
    go_wp2
    go_ret
    exact ⟨rfl, rfl⟩
  · go_enter Tryz.func127, Tryz.ntmps127
    go_wp2
    go_ret
    exact ⟨rfl, rfl⟩
set_option maxRecDepth 100000 in
theorem head6_calls {w : World} {s : ByteArray} (h : noHead s) :
    Calls Tryz.prog 127 #[.string s, .string ⟨#[91, 41, 62, 30, 48, 54, 29]⟩] w fun e w' => e = .returned (.bool false) ∧ w' = w := by
  have h5 := h.2
  clear h
  by_cases hz : (7 : Int) ≤ (s.size : Int)
  · go_enter Tryz.func127, Tryz.ntmps127
    go_wp2
    go_ret
    exact ⟨rfl, rfl⟩
  · go_enter Tryz.func127, Tryz.ntmps127
    go_wp2
    go_ret
    exact ⟨rfl, rfl⟩
set_option maxRecDepth 100000 in
theorem pre5_calls {w : World} {s : ByteArray} (h : noHead s) :
    Calls Tryz.prog 85 #[.string s, .string ⟨#[91, 41, 62, 30, 48, 53, 29]⟩] w fun e w' => e = .returned (.bool false) ∧ w' = w := by
  go_enter Tryz.func85, Tryz.ntmps85
  go_wp2_with (go_at_call 127; refine (head5_calls h).mono ?_; rintro e w1 ⟨rfl, rfl⟩)
  go_ret
  exact ⟨rfl, rfl⟩
set_option maxRecDepth 100000 in
theorem pre6_calls {w : World} {s : ByteArray} (h : noHead s) :
    Calls Tryz.prog 85 #[.string s, .string ⟨#[91, 41, 62, 30, 48, 54, 29]⟩] w fun e w' => e = .returned (.bool false) ∧ w' = w := by
  go_enter Tryz.func85, Tryz.ntmps85
  go_wp2_with (go_at_call 127; refine (head6_calls h).mono ?_; rintro e w1 ⟨rfl, rfl⟩)
  go_ret
  exact ⟨rfl, rfl⟩
end Go.Proofs.YtcnallabiffemaaGreatDoor
