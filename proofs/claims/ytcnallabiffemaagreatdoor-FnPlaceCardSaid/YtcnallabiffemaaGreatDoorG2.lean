/- The encoder's context in memory. -/
import Derived.Test.YtcnallabiffemaaGreatDoorG1
set_option linter.unusedVariables false
set_option linter.unusedSimpArgs false
namespace Go.Proofs.YtcnallabiffemaaGreatDoor
open Go.RowKit

def symV : Option (Nat × Nat) → Value
  | none => .pointer none
  | some (_, b) => .pointer (some ⟨b, 0, none⟩)
def ctxC (mb n mcap shape : Nat) (v : Value) (pos ne : Int) (sym : Option (Nat × Nat)) (skip : Int) : Array Value :=
  #[.slice (some ⟨mb, 0, none⟩) n mcap, .int .i64 shape, .pointer none, .pointer none, v, .int .i64 pos, .int .i64 ne, symV sym, .int .i64 skip]

/-- the context: message, codewords, place, signal, symbol, what is skipped -/
structure Ctx (w0 w : World) (base c mb mcap shape : Nat) (msg : List Nat) (v : Value) (cw : List Nat) (pos ne : Int) (sym : Option (Nat × Nat)) (skip : Int) : Prop where
  blk : w.heap[c]? = some (.cells (ctxC mb msg.length mcap shape v pos ne sym skip) 125)
  own : Own w base .u8 5 v cw
  byt : Bytes w mb msg
  below : Below w0.heap.size w0 w
  b0 : w0.heap.size ≤ base
  b1 : base ≤ c
  b2 : mb < base
  b3 : base ≤ w.heap.size
  syms : ∀ i b, sym = some (i, b) → w.heap[b]? = some (.cells (siOf i) 112)

section
variable {w0 w : World} {base c mb mcap shape : Nat} {msg : List Nat} {v : Value} {cw : List Nat} {pos ne : Int} {sym : Option (Nat × Nat)} {skip : Int}
theorem Own.tag {w : World} {base : Nat} {k : IntKind} {T : TypeId} {v : Value} {xs : List Nat} (h : Own w base k T v xs) : ∀ g, v.ownBlock = some g → ∃ cs, w.heap[g]? = some (.cells cs T) := by
  intro g hg
  rcases h.look with ⟨rfl, _⟩ | ⟨g1, cap, rest, rfl, _, _, _, _, hb⟩
  · cases hg
  · simp only [Value.ownBlock, Option.some.injEq] at hg
    subst hg; exact ⟨_, hb⟩
theorem Ctx.ne_c (h : Ctx w0 w base c mb mcap shape msg v cw pos ne sym skip) : ∀ g, v.ownBlock = some g → g ≠ c := by
  intro g hg e
  obtain ⟨cs, h1⟩ := h.own.tag g hg
  rw [e, h.blk] at h1
  injection h1 with h1; injection h1 with _ h1
  exact absurd h1 (by decide)
theorem Ctx.ne_s (h : Ctx w0 w base c mb mcap shape msg v cw pos ne sym skip) {i b : Nat} (hs : sym = some (i, b)) : b ≠ c ∧ ∀ g, v.ownBlock = some g → g ≠ b := by
  have h0 := h.syms i b hs
  constructor
  · intro e; rw [e, h.blk] at h0; injection h0 with h1; injection h1 with _ h1; exact absurd h1 (by decide)
  · intro g hg e
    obtain ⟨cs, h1⟩ := h.own.tag g hg
    rw [e, h0] at h1
    injection h1 with h1; injection h1 with _ h1
    exact absurd h1 (by decide)
theorem Ctx.c0 (h : Ctx w0 w base c mb mcap shape msg v cw pos ne sym skip) : w.cell? ⟨c, 0, none⟩ = some (.slice (some ⟨mb, 0, none⟩) msg.length mcap) := by rw [cell_blk h.blk]; rfl
theorem Ctx.c1 (h : Ctx w0 w base c mb mcap shape msg v cw pos ne sym skip) : w.cell? ⟨c, 1, none⟩ = some (.int .i64 shape) := by rw [cell_blk h.blk]; rfl
theorem Ctx.c2 (h : Ctx w0 w base c mb mcap shape msg v cw pos ne sym skip) : w.cell? ⟨c, 2, none⟩ = some (.pointer none) := by rw [cell_blk h.blk]; rfl
theorem Ctx.c3 (h : Ctx w0 w base c mb mcap shape msg v cw pos ne sym skip) : w.cell? ⟨c, 3, none⟩ = some (.pointer none) := by rw [cell_blk h.blk]; rfl
theorem Ctx.c4 (h : Ctx w0 w base c mb mcap shape msg v cw pos ne sym skip) : w.cell? ⟨c, 4, none⟩ = some v := by rw [cell_blk h.blk]; rfl
theorem Ctx.c5 (h : Ctx w0 w base c mb mcap shape msg v cw pos ne sym skip) : w.cell? ⟨c, 5, none⟩ = some (.int .i64 pos) := by rw [cell_blk h.blk]; rfl
theorem Ctx.c6 (h : Ctx w0 w base c mb mcap shape msg v cw pos ne sym skip) : w.cell? ⟨c, 6, none⟩ = some (.int .i64 ne) := by rw [cell_blk h.blk]; rfl
theorem Ctx.c7 (h : Ctx w0 w base c mb mcap shape msg v cw pos ne sym skip) : w.cell? ⟨c, 7, none⟩ = some (symV sym) := by rw [cell_blk h.blk]; rfl
theorem Ctx.c8 (h : Ctx w0 w base c mb mcap shape msg v cw pos ne sym skip) : w.cell? ⟨c, 8, none⟩ = some (.int .i64 skip) := by rw [cell_blk h.blk]; rfl
theorem Ctx.drewN (h : Ctx w0 w base c mb mcap shape msg v cw pos ne sym skip) (n : Nat) : Ctx w0 (w.drewN n) base c mb mcap shape msg v cw pos ne sym skip :=
  ⟨h.blk, h.own.drewN n, h.byt.drewN n, below_dr h.below n, h.b0, h.b1, h.b2, h.b3, h.syms⟩
theorem Ctx.upd (h : Ctx w0 w base c mb mcap shape msg v cw pos ne sym skip) {k : Nat} {u : Value} {pos' ne' skip' : Int}
    (e : (ctxC mb msg.length mcap shape v pos ne sym skip).setIfInBounds k u = ctxC mb msg.length mcap shape v pos' ne' sym skip') :
    Ctx w0 (w.setCell ⟨c, k, none⟩ u) base c mb mcap shape msg v cw pos' ne' sym skip' where
  blk := by rw [heap_setCell_at h.blk, e]
  own := h.own.set_ne (fun hg => h.ne_c _ hg rfl) u
  byt := h.byt.set_ne (by have := h.b1; have := h.b2; simp; omega) u
  below := h.below.setCell (by have := h.b0; have := h.b1; simp; omega) u
  b0 := h.b0
  b1 := h.b1
  b2 := h.b2
  b3 := by have := h.b3; simpa [World.setCell] using this
  syms := fun i b hs => by rw [Below.heap_setCell _ _ _ _ (by have := (h.ne_s hs).1; simpa using this)]; exact h.syms i b hs
theorem Ctx.setPos (h : Ctx w0 w base c mb mcap shape msg v cw pos ne sym skip) (p : Int) : Ctx w0 (w.setCell ⟨c, 5, none⟩ (.int .i64 p)) base c mb mcap shape msg v cw p ne sym skip := h.upd rfl
theorem Ctx.setNe (h : Ctx w0 w base c mb mcap shape msg v cw pos ne sym skip) (p : Int) : Ctx w0 (w.setCell ⟨c, 6, none⟩ (.int .i64 p)) base c mb mcap shape msg v cw pos p sym skip := h.upd rfl
theorem Ctx.setSkip (h : Ctx w0 w base c mb mcap shape msg v cw pos ne sym skip) (p : Int) : Ctx w0 (w.setCell ⟨c, 8, none⟩ (.int .i64 p)) base c mb mcap shape msg v cw pos ne sym p := h.upd rfl
/-- new codewords, in the context -/
theorem Ctx.setCw (h : Ctx w0 w base c mb mcap shape msg v cw pos ne sym skip) {w' : World} {v' : Value} {cw' : List Nat} {row : Option Nat} (hg : w.grownBy w' row) (hr : ∀ g, row = some g → base ≤ g ∧ g ≠ c ∧ (∀ i b, sym = some (i, b) → g ≠ b))
    (ho : Own w' base .u8 5 v' cw') : Ctx w0 (w'.setCell ⟨c, 4, none⟩ v') base c mb mcap shape msg v' cw' pos ne sym skip := by
  have hcl : c < w.heap.size := lt_of_some h.blk
  have hb : w'.heap[c]? = some (.cells (ctxC mb msg.length mcap shape v pos ne sym skip) 125) := (hg.block c hcl (fun e => (hr _ e.symm).2.1 rfl)).trans h.blk
  have hs : ∀ i b, sym = some (i, b) → w'.heap[b]? = some (.cells (siOf i) 112) := fun i b e => by
    have h1 := h.syms i b e
    exact (hg.block b (lt_of_some h1) (fun e2 => (hr _ e2.symm).2.2 i b e rfl)).trans h1
  have hbl : Below w0.heap.size w0 w' := h.below.grown hg (h.below.size) (fun g e => Nat.le_trans h.b0 (hr g e).1)
  have hb1 := h.b1
  have hb2 := h.b2
  refine ⟨?_, ho.set_ne ?_ _, (h.byt.grown hg ?_).set_ne (by simp; omega) _, hbl.setCell (by have := h.b0; simp; omega) _, h.b0, h.b1, h.b2, ?_, fun i b e => ?_⟩
  · rw [heap_setCell_at hb]; rfl
  · intro e
    obtain ⟨cs, h1⟩ := ho.tag _ e
    rw [hb] at h1
    injection h1 with h1; injection h1 with _ h1
    exact absurd h1 (by decide)
  · intro e; have := (hr mb e.symm).1; omega
  · have := h.b3; have := hg.size; simp [World.setCell]; omega
  · rw [Below.heap_setCell _ _ _ _ (by have := (h.ne_s e).1; simpa using this)]; exact hs i b e
theorem Ctx.alloc (h : Ctx w0 w base c mb mcap shape msg v cw pos ne sym skip) (o : Obj) : Ctx w0 (w.alloc o) base c mb mcap shape msg v cw pos ne sym skip := by
  have hcl : c < w.heap.size := lt_of_some h.blk
  refine ⟨?_, h.own.alloc o, h.byt.alloc o, h.below.alloc h.below.size o, h.b0, h.b1, h.b2, by have := h.b3; simp; omega, fun i b e => ?_⟩
  · rw [Below.heap_alloc _ _ _ hcl]; exact h.blk
  · rw [Below.heap_alloc _ _ _ (lt_of_some (h.syms i b e))]; exact h.syms i b e
end
end Go.Proofs.YtcnallabiffemaaGreatDoor
