/- The context looks up its symbol. -/
import Derived.Test.YtcnallabiffemaaGreatDoorG6
set_option linter.unusedVariables false
set_option linter.unusedSimpArgs false
namespace Go.Proofs.YtcnallabiffemaaGreatDoor
open Go.RowKit

section
variable {w0 w : World} {base c mb mcap shape : Nat} {msg : List Nat} {v : Value} {cw : List Nat} {pos ne : Int} {sym : Option (Nat × Nat)} {skip : Int}
theorem Ctx.keep (h : Ctx w0 w base c mb mcap shape msg v cw pos ne sym skip) {w' : World} (hb : Below w.heap.size w w') : Ctx w0 w' base c mb mcap shape msg v cw pos ne sym skip :=
  ⟨(hb.block _ (lt_of_some h.blk)).trans h.blk, h.own.below hb (fun g hg => (h.own.lt g hg).2), h.byt.below hb h.byt.1, h.below.trans (hb.mono h.below.size), h.b0, h.b1, h.b2, Nat.le_trans h.b3 hb.size,
    fun i b e => (hb.block _ (lt_of_some (h.syms i b e))).trans (h.syms i b e)⟩
theorem Ctx.setSym (h : Ctx w0 w base c mb mcap shape msg v cw pos ne sym skip) {i b : Nat} (hs : w.heap[b]? = some (.cells (siOf i) 112)) :
    Ctx w0 (w.setCell ⟨c, 7, none⟩ (.pointer (some ⟨b, 0, none⟩))) base c mb mcap shape msg v cw pos ne (some (i, b)) skip := by
  have hbc : b ≠ c := by
    intro e; rw [e, h.blk] at hs; injection hs with h1; injection h1 with _ h1; exact absurd h1 (by decide)
  refine ⟨by rw [heap_setCell_at h.blk]; rfl, h.own.set_ne (fun hg => h.ne_c _ hg rfl) _, h.byt.set_ne (by have := h.b1; have := h.b2; simp; omega) _, h.below.setCell (by have := h.b0; have := h.b1; simp; omega) _, h.b0, h.b1, h.b2,
    by have := h.b3; simpa [World.setCell] using this, ?_⟩
  intro i' b' e
  injection e with e; injection e with e1 e2; subst e1 e2
  rw [Below.heap_setCell _ _ _ _ (by simpa using hbc)]; exact hs

set_option maxRecDepth 100000 in
set_option maxHeartbeats 4000000 in
theorem upd_calls {i len : Nat} (h : Ctx w0 w base c mb mcap shape msg v cw pos ne none skip) (hs : shape < 3) (hl : lookSym (len : Int) shape = some i) :
    Calls Tryz.prog 130 #[.pointer (some ⟨c, 0, none⟩), .int .i64 len] w fun e w' => e = .returned .nilIface ∧ ∃ b, Ctx w0 w' base c mb mcap shape msg v cw pos ne (some (i, b)) skip := by
  have k1 := h.c1
  have k2 := h.c2
  have k3 := h.c3
  have k7 : w.cell? ⟨c, 7, none⟩ = some (.pointer none) := h.c7
  have H := Lib.hid h
  have L := Lib.hid hl
  clear h hl
  go_enter Tryz.func130, Tryz.ntmps130
  go_wp2
  go_region_with ((go_at_call 42; refine (lookI_calls hs L.out _).mono ?_; rintro e w2 ⟨bs, rfl, hbs, hsi, b2⟩; have HC := Lib.hid ((H.out.drewN _).keep b2); have l7 : w2.cell? ⟨c, 7, none⟩ = some (.pointer none) := HC.out.c7; have f7 := frozen_blk HC.out.blk 7; have S := Lib.hid (HC.out.setSym hsi); clear hsi b2))
  all_goals go_wp2
  all_goals go_ret
  all_goals exact ⟨rfl, _, S.out⟩
end
end Go.Proofs.YtcnallabiffemaaGreatDoor
