/- The placement of the encoder, in memory: one bit, one module. -/
import Derived.Test.YtcnallabiffemaaGreatDoorD1
set_option linter.unusedVariables false
set_option linter.unusedSimpArgs false
namespace Go.Proofs.YtcnallabiffemaaGreatDoor
open Go.RowKit

structure PMem (w0 w : World) (b bb cb cap : Nat) (rows cols : Nat) (cw : List Nat) (bits : List Int) : Prop where
  blk : w.heap[b]? = some (.cells #[.slice (some ⟨cb, 0, none⟩) cw.length cap, .int .i64 rows, .int .i64 cols, .slice (some ⟨bb, 0, none⟩) bits.length bits.length] 138)
  row : Row w bb .i8 139 bits
  byt : Bytes w cb cw
  below : Below w0.heap.size w0 w
  base : w0.heap.size ≤ bb
  n1 : b ≠ bb
  n2 : cb ≠ bb
  len : bits.length = rows * cols
  r0 : 6 ≤ rows
  r1 : rows ≤ 1000
  c0 : 6 ≤ cols
  c1 : cols ≤ 1000

section
variable {w0 w : World} {b bb cb cap rows cols : Nat} {cw : List Nat} {bits : List Int}
theorem PMem.set (h : PMem w0 w b bb cb cap rows cols cw bits) (i : Nat) (v : Int) : PMem w0 (w.setCell ⟨bb, i, none⟩ (.int .i8 v)) b bb cb cap rows cols cw (bits.set i v) where
  blk := by rw [Below.heap_setCell _ _ _ _ h.n1, List.length_set]; exact h.blk
  row := h.row.set i v
  byt := h.byt.set_ne h.n2 _
  below := h.below.setCell h.base _
  base := h.base
  n1 := h.n1
  n2 := h.n2
  len := by rw [List.length_set]; exact h.len
  r0 := h.r0
  r1 := h.r1
  c0 := h.c0
  c1 := h.c1
theorem PMem.drewN (h : PMem w0 w b bb cb cap rows cols cw bits) (n : Nat) : PMem w0 (w.drewN n) b bb cb cap rows cols cw bits :=
  ⟨h.blk, h.row, h.byt.drewN n, below_dr h.below n, h.base, h.n1, h.n2, h.len, h.r0, h.r1, h.c0, h.c1⟩
theorem PMem.drew (h : PMem w0 w b bb cb cap rows cols cw bits) : PMem w0 w.drew b bb cb cap rows cols cw bits := h.drewN 1
theorem PMem.k0 (h : PMem w0 w b bb cb cap rows cols cw bits) : w.cell? ⟨b, 0, none⟩ = some (.slice (some ⟨cb, 0, none⟩) cw.length cap) := by rw [cell_blk h.blk]; rfl
theorem PMem.k1 (h : PMem w0 w b bb cb cap rows cols cw bits) : w.cell? ⟨b, 1, none⟩ = some (.int .i64 rows) := by rw [cell_blk h.blk]; rfl
theorem PMem.k2 (h : PMem w0 w b bb cb cap rows cols cw bits) : w.cell? ⟨b, 2, none⟩ = some (.int .i64 cols) := by rw [cell_blk h.blk]; rfl
theorem PMem.k3 (h : PMem w0 w b bb cb cap rows cols cw bits) : w.cell? ⟨b, 3, none⟩ = some (.slice (some ⟨bb, 0, none⟩) bits.length bits.length) := by rw [cell_blk h.blk]; rfl
end

def b2i (v : Bool) : Int := if v then 1 else 0

/-- nothing behind a store but what it says -/
def PSet (w0 : World) (b bb cb cap rows cols : Nat) (cw : List Nat) (bits : List Int) (e : Ending) (w' : World) : Prop := e = .returned (.tuple #[]) ∧ PMem w0 w' b bb cb cap rows cols cw bits

theorem setBit_calls (v : Bool) {w0 w : World} {b bb cb cap rows cols : Nat} {cw : List Nat} {bits : List Int} (h : PMem w0 w b bb cb cap rows cols cw bits)
    (col row : Int) (n : Nat) (hr0 : -2000 ≤ row) (hr1 : row ≤ 2000) (hc0 : -2000 ≤ col) (hc1 : col ≤ 2000) (hn : row * cols + col = (n : Int)) (hlt : n < bits.length) :
    Calls Tryz.prog 107 #[.pointer (some ⟨b, 0, none⟩), .int .i64 col, .int .i64 row, .bool v] w (PSet w0 b bb cb cap rows cols cw (bits.set n (b2i v))) := by
  have k2 := h.k2
  have k3 := h.k3
  have cx := h.row.cell hlt
  have fx := h.row.free n
  have hbl : bits.length ≤ 1000000 := by rw [h.len]; exact Nat.mul_le_mul h.r1 h.c1
  have hc := h.c1
  have m1 : -2000000 ≤ row * (cols : Int) ∧ row * (cols : Int) ≤ 2000000 := by
    have hcc : (cols : Int) ≤ 1000 := by omega
    constructor
    · have := Int.mul_le_mul_of_nonneg_right hr0 (by omega : (0 : Int) ≤ (cols : Int)); have := Int.mul_le_mul_of_nonneg_left hcc (by omega : (0 : Int) ≤ 2000); omega
    · have := Int.mul_le_mul_of_nonneg_right hr1 (by omega : (0 : Int) ≤ (cols : Int)); have := Int.mul_le_mul_of_nonneg_left hcc (by omega : (0 : Int) ≤ 2000); omega
  obtain ⟨m1, m2⟩ := m1
  have hS := Lib.hid (h.set n (b2i v))
  clear h
  have i1 : IntKind.i64.wrap (row * (cols : Int)) = row * (cols : Int) := IntWalk.i64_in _ (by omega)
  have i2 : IntKind.i64.wrap (row * (cols : Int) + col) = (n : Int) := by rw [hn]; exact IntWalk.i64_in _ (by omega)
  clear hn
  cases v
  all_goals
    go_enter Tryz.func107, Tryz.ntmps107
    go_wp2
    go_region
    all_goals (go_wp2; go_end0; exact ⟨rfl, hS.out.drew⟩)
end Go.Proofs.YtcnallabiffemaaGreatDoor
