/- The context's symbol, by its own codewords. -/
import Derived.Test.YtcnallabiffemaaGreatDoorG10
set_option linter.unusedVariables false
set_option linter.unusedSimpArgs false
namespace Go.Proofs.YtcnallabiffemaaGreatDoor
open Go.RowKit

section
variable {w0 w : World} {base c mb mcap shape : Nat} {msg : List Nat} {v : Value} {cw : List Nat} {pos ne : Int} {sym : Option (Nat × Nat)} {skip : Int}
theorem count_calls (h : Ctx w0 w base c mb mcap shape msg v cw pos ne sym skip) (h1 : 0 < cw.length) :
    Calls Tryz.prog 92 #[.pointer (some ⟨c, 0, none⟩)] w fun e w' => e = .returned (.int .i64 (cw.length : Nat)) ∧ w' = w := by
  obtain ⟨g, cap, rfl⟩ := h.own.slice h1
  have k := h.c4
  clear h
  go_enter Tryz.func92, Tryz.ntmps92
  go_wp2
  go_ret
  exact ⟨rfl, rfl⟩
theorem upd93_calls {i : Nat} (h : Ctx w0 w base c mb mcap shape msg v cw pos ne none skip) (hs : shape < 3) (hl : lookSym (cw.length : Int) shape = some i) (h1 : 0 < cw.length) :
    Calls Tryz.prog 93 #[.pointer (some ⟨c, 0, none⟩)] w fun e w' => e = .returned .nilIface ∧ ∃ b, Ctx w0 w' base c mb mcap shape msg v cw pos ne (some (i, b)) skip := by
  go_enter Tryz.func93, Tryz.ntmps93
  go_wp2_with (first | (go_at_call 92; refine (count_calls h h1).mono ?_; rintro e w1 ⟨rfl, rfl⟩) | (go_at_call 130; refine (upd_calls h hs hl).mono ?_; rintro e w2 ⟨rfl, b, hc⟩; have HC := Lib.hid hc; clear hc))
  go_ret
  exact ⟨rfl, _, HC.out⟩
end
end Go.Proofs.YtcnallabiffemaaGreatDoor
