/- Setting the context's shape and sizes. -/
import Derived.Test.YtcnallabiffemaaGreatDoorG11
set_option linter.unusedVariables false
set_option linter.unusedSimpArgs false
namespace Go.Proofs.YtcnallabiffemaaGreatDoor
open Go.RowKit

section
variable {w0 w : World} {base c mb mcap shape : Nat} {msg : List Nat} {v : Value} {cw : List Nat} {pos ne : Int} {sym : Option (Nat × Nat)} {skip : Int}
theorem Ctx.updS (h : Ctx w0 w base c mb mcap shape msg v cw pos ne sym skip) {k : Nat} {u : Value} {shape' : Nat}
    (e : (ctxC mb msg.length mcap shape v pos ne sym skip).setIfInBounds k u = ctxC mb msg.length mcap shape' v pos ne sym skip) :
    Ctx w0 (w.setCell ⟨c, k, none⟩ u) base c mb mcap shape' msg v cw pos ne sym skip where
  blk := by rw [heap_setCell_at h.blk, e]
  own := h.own.set_ne (fun hg => h.ne_c _ hg rfl) u
  byt := h.byt.set_ne (by have := h.b1; have := h.b2; simp; omega) u
  below := h.below.setCell (by have := h.b0; have := h.b1; simp; omega) u
  b0 := h.b0
  b1 := h.b1
  b2 := h.b2
  b3 := by have := h.b3; simpa [World.setCell] using this
  syms := fun i b hs => by rw [Below.heap_setCell _ _ _ _ (by have := (h.ne_s hs).1; simpa using this)]; exact h.syms i b hs
theorem setShape_calls (h : Ctx w0 w base c mb mcap shape msg v cw pos ne sym skip) (sh : Nat) :
    Calls Tryz.prog 83 #[.pointer (some ⟨c, 0, none⟩), .int .i64 sh] w fun e w' => e = .returned (.tuple #[]) ∧ Ctx w0 w' base c mb mcap sh msg v cw pos ne sym skip := by
  have k := h.c1
  have f := frozen_blk h.blk 1
  have S := Lib.hid (h.updS (k := 1) (u := .int .i64 sh) (shape' := sh) rfl)
  clear h
  go_enter Tryz.func83, Tryz.ntmps83
  go_wp2
  go_end0
  exact ⟨rfl, S.out⟩
theorem setSize_calls (h : Ctx w0 w base c mb mcap shape msg v cw pos ne sym skip) :
    Calls Tryz.prog 84 #[.pointer (some ⟨c, 0, none⟩), .pointer none, .pointer none] w fun e w' => e = .returned (.tuple #[]) ∧ Ctx w0 w' base c mb mcap shape msg v cw pos ne sym skip := by
  have h2 : Ctx w0 (w.setCell ⟨c, 2, none⟩ (.pointer none)) base c mb mcap shape msg v cw pos ne sym skip := h.upd rfl
  have k := h.c2
  have f := frozen_blk h.blk 2
  have k3 := h2.c3
  have f3 := frozen_blk h2.blk 3
  have S := Lib.hid (h2.updS (k := 3) (u := .pointer none) (shape' := shape) rfl)
  clear h h2
  go_enter Tryz.func84, Tryz.ntmps84
  go_wp2
  go_end0
  exact ⟨rfl, S.out⟩
end
end Go.Proofs.YtcnallabiffemaaGreatDoor
