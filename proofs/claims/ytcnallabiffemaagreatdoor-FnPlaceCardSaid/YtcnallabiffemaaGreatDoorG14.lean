/- The writer on 123456. -/
import Derived.Test.YtcnallabiffemaaGreatDoorG13
set_option linter.unusedVariables false
set_option linter.unusedSimpArgs false
namespace Go.Proofs.YtcnallabiffemaaGreatDoor
open Go.RowKit
def out6 : List Nat := c6 ++ eccOut (facN (tOf 0)) c6
theorem smallC6 : Small c6 := small_of_mem (by decide +kernel)
theorem small_app {a b : List Nat} (ha : Small a) (hb : Small b) : Small (a ++ b) := by
  intro i
  rw [List.getD_eq_getElem?_getD]
  rcases Nat.lt_or_ge i a.length with h | h
  · rw [List.getElem?_append_left h, ← List.getD_eq_getElem?_getD]; exact ha i
  · rw [List.getElem?_append_right h, ← List.getD_eq_getElem?_getD]; exact hb _
theorem out6_len : out6.length = totN 0 := by
  unfold out6
  rw [List.length_append, eccOut_len]; decide +kernel
/-- the writer, for one symbol -/
theorem write6 : ∃ bits, ∀ w, Calls Tryz.prog 30 #[.string s6, .int .i64 0] w (WritePost 10 10 8 8 8 bits w) := by
  obtain ⟨f, hf, hfl⟩ := dims3 (i := 0) (by omega)
  refine ⟨bitsOf 0 out6 f, fun w => ?_⟩
  exact write_calls (i := 0) (shape := 0) (cw := c6) (out := out6) (f := f) (by decide +kernel) (by omega) (by omega) (by decide) (high6 w) look6
    (fun wx b cb cap hb hcw => enc1_calls b 0 cb cap c6 wx (by omega) hb rfl rfl smallC6 hcw)
    (small_app smallC6 (eccOut_small _ _)) out6_len hf hfl
end Go.Proofs.YtcnallabiffemaaGreatDoor
