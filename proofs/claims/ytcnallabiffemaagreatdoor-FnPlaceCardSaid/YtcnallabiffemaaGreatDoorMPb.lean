import Derived.Test.YtcnallabiffemaaGreatDoorH2
import Derived.Test.YtcnallabiffemaaGreatDoorMPz

/- The reference's placement in memory: put, free, shape, utah. -/
set_option linter.unusedVariables false
set_option linter.unusedSimpArgs false
namespace Go.Proofs.YtcnallabiffemaaGreatDoor
open Go.RowKit

structure SMem (w0 w : World) (b bb : Nat) (rows cols : Nat) (bits : List Int) : Prop where
  blk : w.heap[b]? = some (.cells #[.int .i64 rows, .int .i64 cols, .slice (some ⟨bb, 0, none⟩) bits.length bits.length] 84)
  row : Row w bb .i64 3 bits
  below : Below w0.heap.size w0 w
  base : w0.heap.size ≤ bb
  bas2 : w0.heap.size ≤ b
  n1 : b ≠ bb
  len : bits.length = rows * cols
  r0 : 6 ≤ rows
  r1 : rows ≤ 1000
  c0 : 6 ≤ cols
  c1 : cols ≤ 1000

section
variable {w0 w w' : World} {b bb rows cols : Nat} {bits : List Int}
theorem SMem.set (h : SMem w0 w b bb rows cols bits) (i : Nat) (v : Int) : SMem w0 (w.setCell ⟨bb, i, none⟩ (.int .i64 v)) b bb rows cols (bits.set i v) where
  blk := by rw [Below.heap_setCell _ _ _ _ h.n1, List.length_set]; exact h.blk
  row := h.row.set i v
  below := h.below.setCell h.base _
  base := h.base
  bas2 := h.bas2
  n1 := h.n1
  len := by rw [List.length_set]; exact h.len
  r0 := h.r0
  r1 := h.r1
  c0 := h.c0
  c1 := h.c1
theorem SMem.drewN (h : SMem w0 w b bb rows cols bits) (n : Nat) : SMem w0 (w.drewN n) b bb rows cols bits :=
  ⟨h.blk, h.row, below_dr h.below n, h.base, h.bas2, h.n1, h.len, h.r0, h.r1, h.c0, h.c1⟩
theorem SMem.drew (h : SMem w0 w b bb rows cols bits) : SMem w0 w.drew b bb rows cols bits := h.drewN 1
theorem SMem.lb (h : SMem w0 w b bb rows cols bits) : b < w.heap.size := lt_of_blk h.blk
theorem SMem.lbb (h : SMem w0 w b bb rows cols bits) : bb < w.heap.size := h.row.lt
theorem SMem.alloc (h : SMem w0 w b bb rows cols bits) (o : Obj) : SMem w0 (w.alloc o) b bb rows cols bits :=
  ⟨(Below.heap_alloc _ _ _ h.lb).trans h.blk, h.row.alloc o, h.below.alloc h.below.size o, h.base, h.bas2, h.n1, h.len, h.r0, h.r1, h.c0, h.c1⟩
theorem SMem.setO (h : SMem w0 w b bb rows cols bits) {a : Addr} (v : Value) (h1 : b ≠ a.block) (h2 : bb ≠ a.block) (h3 : w0.heap.size ≤ a.block) : SMem w0 (w.setCell a v) b bb rows cols bits :=
  ⟨(Below.heap_setCell _ _ _ _ h1).trans h.blk, h.row.set_ne h2 v, h.below.setCell h3 v, h.base, h.bas2, h.n1, h.len, h.r0, h.r1, h.c0, h.c1⟩
theorem SMem.k0 (h : SMem w0 w b bb rows cols bits) : w.cell? ⟨b, 0, none⟩ = some (.int .i64 rows) := by rw [cell_blk h.blk]; rfl
theorem SMem.k1 (h : SMem w0 w b bb rows cols bits) : w.cell? ⟨b, 1, none⟩ = some (.int .i64 cols) := by rw [cell_blk h.blk]; rfl
theorem SMem.k2 (h : SMem w0 w b bb rows cols bits) : w.cell? ⟨b, 2, none⟩ = some (.slice (some ⟨bb, 0, none⟩) bits.length bits.length) := by rw [cell_blk h.blk]; rfl
end
def SSet (w0 : World) (b bb rows cols : Nat) (bits : List Int) (e : Ending) (w' : World) : Prop := e = .returned (.tuple #[]) ∧ SMem w0 w' b bb rows cols bits

theorem free_calls {w0 w : World} {b bb rows cols : Nat} {bits : List Int} (h : SMem w0 w b bb rows cols bits)
    (row col : Int) (n : Nat) (hr0 : -2000 ≤ row) (hr1 : row ≤ 2000) (hc0 : -2000 ≤ col) (hc1 : col ≤ 2000) (hn : row * cols + col = (n : Int)) (hlt : n < bits.length) :
    Calls Tryz.prog 50 #[.pointer (some ⟨b, 0, none⟩), .int .i64 row, .int .i64 col] w fun e w' => e = .returned (.bool (decide (bits.getD n 0 < 0))) ∧ ∃ m, w' = w.drewN m := by
  have k2 := h.k1
  have k3 := h.k2
  have cx := h.row.cell hlt
  have hbl : bits.length ≤ 1000000 := by rw [h.len]; exact Nat.mul_le_mul h.r1 h.c1
  have hc := h.c1
  obtain ⟨m1, m2⟩ := mul_small hr0 hr1 (by omega : (0 : Int) ≤ (cols : Int)) (by omega)
  clear h
  generalize bits.getD n 0 = x at *
  have i1 : IntKind.i64.wrap (row * (cols : Int)) = row * (cols : Int) := IntWalk.i64_in _ (by omega)
  have i2 : IntKind.i64.wrap (row * (cols : Int) + col) = (n : Int) := by rw [hn]; exact IntWalk.i64_in _ (by omega)
  clear hn
  go_enter Tryz.func50, Tryz.ntmps50
  go_wp2
  go_quiet (fail)
  go_wp2
  go_ret
  exact ⟨rfl, _, rfl⟩

theorem put_case {rows cols n L : Nat} {row col r c : Int} (r1 : rows ≤ 1000) (c1 : cols ≤ 1000) (hr0 : -10 ≤ row) (hr1 : row ≤ 1000) (hn : idxR rows cols row col = (n : Int)) (hlt : n < L) (hbl : L ≤ 1000000) (hw : wrapR rows cols row col = (r, c)) :
    -20 ≤ r ∧ r ≤ 2010 ∧ IntKind.i64.wrap (r * (cols : Int)) = r * (cols : Int) ∧ IntKind.i64.wrap (r * (cols : Int) + c) = (n : Int) := by
  have hq : -20 ≤ r ∧ r ≤ 2010 := by
    have e : r = (wrapR rows cols row col).1 := by rw [hw]
    rw [e]; unfold wrapR wrapC; split <;> split <;> simp only <;> omega
  obtain ⟨m1, m2⟩ : -3000000 ≤ r * (cols : Int) ∧ r * (cols : Int) ≤ 3000000 := by
    constructor
    · have := Int.mul_le_mul_of_nonneg_right hq.1 (by omega : (0 : Int) ≤ (cols : Int)); omega
    · have := Int.mul_le_mul_of_nonneg_right hq.2 (by omega : (0 : Int) ≤ (cols : Int)); omega
  exact ⟨hq.1, hq.2, IntWalk.i64_in _ (by omega), by rw [idx_of hn hw]; exact IntWalk.i64_in _ (by omega)⟩

set_option maxHeartbeats 2000000 in
theorem putS_calls {w0 w : World} {b bb rows cols : Nat} {bits : List Int} (h : SMem w0 w b bb rows cols bits)
    (row col : Int) (pos k n : Nat) (hr0 : -10 ≤ row) (hr1 : row ≤ 1000) (hc0 : -10 ≤ col) (hc1 : col ≤ 1000) (hn : idxR rows cols row col = (n : Int)) (hlt : n < bits.length) (hpos : pos ≤ 4000) (hk : k < 8) :
    Calls Tryz.prog 100 #[.pointer (some ⟨b, 0, none⟩), .int .i64 row, .int .i64 col, .int .i64 pos, .int .i64 k] w (SSet w0 b bb rows cols (bits.set n ((8 * pos + k : Nat) : Int))) := by
  have k0 := h.k0
  have k1 := h.k1
  have k2 := h.k2
  have cx := h.row.cell hlt
  have fx := h.row.free n
  have hbl : bits.length ≤ 1000000 := by rw [h.len]; exact Nat.mul_le_mul h.r1 h.c1
  have b1 := h.r1
  have b2 := h.c1
  have i3 : ((8 * pos + k : Nat) : Int) = 8 * (pos : Int) + (k : Int) := by simp
  have hS := h.set n ((8 * pos + k : Nat) : Int)
  rw [i3] at hS ⊢
  have HS := Lib.hid hS
  clear h hS i3
  by_cases hr : row < 0
  · by_cases hc : col + (4 - ((rows : Int) + 4) % 8) < 0
    · obtain ⟨q1, q2, i1, i2⟩ := put_case b1 b2 hr0 hr1 hn hlt hbl (show wrapR rows cols row col = (row + rows + (4 - ((cols : Int) + 4) % 8), col + (4 - ((rows : Int) + 4) % 8) + cols) by unfold wrapR; rw [if_pos hr]; unfold wrapC; rw [if_pos hc])
      clear hn
      go_enter Tryz.func100, Tryz.ntmps100
      go_wp2
      go_region
      all_goals (go_wp2; go_end0; exact ⟨rfl, HS.out.drew⟩)
    · obtain ⟨q1, q2, i1, i2⟩ := put_case b1 b2 hr0 hr1 hn hlt hbl (show wrapR rows cols row col = (row + rows, col + (4 - ((rows : Int) + 4) % 8)) by unfold wrapR; rw [if_pos hr]; unfold wrapC; rw [if_neg hc])
      clear hn
      go_enter Tryz.func100, Tryz.ntmps100
      go_wp2
      go_region
      all_goals (go_wp2; go_end0; exact ⟨rfl, HS.out.drew⟩)
  · by_cases hc : col < 0
    · obtain ⟨q1, q2, i1, i2⟩ := put_case b1 b2 hr0 hr1 hn hlt hbl (show wrapR rows cols row col = (row + (4 - ((cols : Int) + 4) % 8), col + cols) by unfold wrapR; rw [if_neg hr]; unfold wrapC; rw [if_pos hc])
      clear hn
      go_enter Tryz.func100, Tryz.ntmps100
      go_wp2
      go_region
      all_goals (go_wp2; go_end0; exact ⟨rfl, HS.out.drew⟩)
    · obtain ⟨q1, q2, i1, i2⟩ := put_case b1 b2 hr0 hr1 hn hlt hbl (show wrapR rows cols row col = (row, col) by unfold wrapR; rw [if_neg hr]; unfold wrapC; rw [if_neg hc])
      clear hn
      go_enter Tryz.func100, Tryz.ntmps100
      go_wp2
      go_region
      all_goals (go_wp2; go_end0; exact ⟨rfl, HS.out.drew⟩)
end Go.Proofs.YtcnallabiffemaaGreatDoor

/- The reference's shape and utah. -/
set_option linter.unusedVariables false
set_option linter.unusedSimpArgs false
namespace Go.Proofs.YtcnallabiffemaaGreatDoor
open Go.RowKit

theorem setLS_snoc (rows cols pos : Nat) (p : Int × Int) : ∀ (ps : List (Int × Int)) (j : Nat) (b : List Int), setLS rows cols pos j (ps ++ [p]) b = (setLS rows cols pos j ps b).set (idxR rows cols p.1 p.2).toNat ((8 * pos + (j + ps.length) : Nat) : Int)
  | [], j, b => by simp [setLS]
  | q :: ps, j, b => by
    rw [List.cons_append, setLS, setLS, setLS_snoc rows cols pos p ps (j + 1), List.length_cons, show j + 1 + ps.length = j + (ps.length + 1) by omega]
theorem putAt {w0 w : World} {b bb rows cols pos k : Nat} {ps : List (Int × Int)} {bits : List Int} (h : SMem w0 w b bb rows cols (setLS rows cols pos 0 (ps.take k) bits)) (hk : k < ps.length) (h8 : ps.length = 8) (hi : ∀ p ∈ ps, InR rows cols p) (hpos : pos ≤ 4000)
    (row col : Int) (hp : ps.getD k (0, 0) = (row, col)) : Calls Tryz.prog 100 #[.pointer (some ⟨b, 0, none⟩), .int .i64 row, .int .i64 col, .int .i64 pos, .int .i64 k] w (SSet w0 b bb rows cols (setLS rows cols pos 0 (ps.take (k + 1)) bits)) := by
  have hm : (row, col) ∈ ps := by
    rw [← hp, List.getD_eq_getElem?_getD, List.getElem?_eq_getElem hk]; exact List.getElem_mem hk
  have hq := hi _ hm
  have e : ps.take (k + 1) = ps.take k ++ [(row, col)] := by
    rw [List.take_add_one, List.getElem?_eq_getElem hk, ← hp, List.getD_eq_getElem?_getD, List.getElem?_eq_getElem hk]; rfl
  rw [e, setLS_snoc, List.length_take, Nat.min_eq_left (by omega), Nat.zero_add]
  exact putS_calls h row col pos k (idxR rows cols row col).toNat hq.r0 hq.r1 hq.c0 hq.c1 (Int.toNat_of_nonneg hq.i0).symm (by rw [h.len]; have := hq.i1; have := hq.i0; simp only at *; omega) hpos (by omega)

set_option maxRecDepth 100000 in
set_option maxHeartbeats 4000000 in
theorem utahS_calls {w0 w : World} {b bb rows cols : Nat} {bits : List Int} (h : SMem w0 w b bb rows cols bits)
    (row col : Int) (pos : Nat) (hr0 : -8 ≤ row) (hr1 : row ≤ 1000) (hc0 : -8 ≤ col) (hc1 : col ≤ 1000) (hi : ∀ p ∈ coords rows cols (0, row, col), InR rows cols p) (hpos : pos ≤ 4000) :
    Calls Tryz.prog 51 #[.pointer (some ⟨b, 0, none⟩), .int .i64 row, .int .i64 col, .int .i64 pos] w (SSet w0 b bb rows cols (setLS rows cols pos 0 (coords rows cols (0, row, col)) bits)) := by
  have H := Lib.hid h
  have HI := Lib.hid hi
  clear h hi
  go_enter Tryz.func51, Tryz.ntmps51
  go_wp2
  go_loopw [19] (fun i wr => ∃ k : Nat, k ≤ 8 ∧ i = .int .i64 k ∧ Hid (SMem w0 wr b bb rows cols (setLS rows cols pos 0 ((coords rows cols (0, row, col)).take k) bits))) (fun i _ => 8 - (intOf i).toNat)
  case atStart => exact ⟨0, by omega, rfl, H.out⟩
  case round =>
    obtain ⟨k, hk, rfl, hS⟩ := hrel
    obtain rfl | rfl | rfl | rfl | rfl | rfl | rfl | rfl | rfl : k = 0 ∨ k = 1 ∨ k = 2 ∨ k = 3 ∨ k = 4 ∨ k = 5 ∨ k = 6 ∨ k = 7 ∨ k = 8 := by omega
    · have ia : ∀ w, (Instr.index 134 (.agg #[.int .i64 (-2), .int .i64 (-2), .int .i64 (-2), .int .i64 (-1), .int .i64 (-1), .int .i64 (-2), .int .i64 (-1), .int .i64 (-1), .int .i64 (-1), .int .i64 (0), .int .i64 (0), .int .i64 (-2), .int .i64 (0), .int .i64 (-1), .int .i64 (0), .int .i64 (0)]) (.int .i64 ((0 : Nat) : Int))).run Tryz.prog w = .ok (.agg #[.int .i64 (-2), .int .i64 (-2)]) w := fun _ => by kernel_rfl
      have ib : ∀ w, (Instr.index 134 (.agg #[.int .i64 (-2), .int .i64 (-2), .int .i64 (-2), .int .i64 (-1), .int .i64 (-1), .int .i64 (-2), .int .i64 (-1), .int .i64 (-1), .int .i64 (-1), .int .i64 (0), .int .i64 (0), .int .i64 (-2), .int .i64 (0), .int .i64 (-1), .int .i64 (0), .int .i64 (0)]) (.int .i64 (0 : Int))).run Tryz.prog w = .ok (.agg #[.int .i64 (-2), .int .i64 (-2)]) w := fun _ => by kernel_rfl
      go_wp2_with (go_at_call 100; go_loud (refine (putAt (k := 0) (ps := coords rows cols (0, row, col)) (hS.out.alloc _) (by simp [coords]) rfl HI.out hpos _ _ rfl).mono ?_; rintro e w' ⟨rfl, hp⟩))
      exact ⟨⟨1, by omega, rfl, hp⟩, by simp [intOf]⟩
    · have ia : ∀ w, (Instr.index 134 (.agg #[.int .i64 (-2), .int .i64 (-2), .int .i64 (-2), .int .i64 (-1), .int .i64 (-1), .int .i64 (-2), .int .i64 (-1), .int .i64 (-1), .int .i64 (-1), .int .i64 (0), .int .i64 (0), .int .i64 (-2), .int .i64 (0), .int .i64 (-1), .int .i64 (0), .int .i64 (0)]) (.int .i64 ((1 : Nat) : Int))).run Tryz.prog w = .ok (.agg #[.int .i64 (-2), .int .i64 (-1)]) w := fun _ => by kernel_rfl
      have ib : ∀ w, (Instr.index 134 (.agg #[.int .i64 (-2), .int .i64 (-2), .int .i64 (-2), .int .i64 (-1), .int .i64 (-1), .int .i64 (-2), .int .i64 (-1), .int .i64 (-1), .int .i64 (-1), .int .i64 (0), .int .i64 (0), .int .i64 (-2), .int .i64 (0), .int .i64 (-1), .int .i64 (0), .int .i64 (0)]) (.int .i64 (1 : Int))).run Tryz.prog w = .ok (.agg #[.int .i64 (-2), .int .i64 (-1)]) w := fun _ => by kernel_rfl
      go_wp2_with (go_at_call 100; go_loud (refine (putAt (k := 1) (ps := coords rows cols (0, row, col)) (hS.out.alloc _) (by simp [coords]) rfl HI.out hpos _ _ rfl).mono ?_; rintro e w' ⟨rfl, hp⟩))
      exact ⟨⟨2, by omega, rfl, hp⟩, by simp [intOf]⟩
    · have ia : ∀ w, (Instr.index 134 (.agg #[.int .i64 (-2), .int .i64 (-2), .int .i64 (-2), .int .i64 (-1), .int .i64 (-1), .int .i64 (-2), .int .i64 (-1), .int .i64 (-1), .int .i64 (-1), .int .i64 (0), .int .i64 (0), .int .i64 (-2), .int .i64 (0), .int .i64 (-1), .int .i64 (0), .int .i64 (0)]) (.int .i64 ((2 : Nat) : Int))).run Tryz.prog w = .ok (.agg #[.int .i64 (-1), .int .i64 (-2)]) w := fun _ => by kernel_rfl
      have ib : ∀ w, (Instr.index 134 (.agg #[.int .i64 (-2), .int .i64 (-2), .int .i64 (-2), .int .i64 (-1), .int .i64 (-1), .int .i64 (-2), .int .i64 (-1), .int .i64 (-1), .int .i64 (-1), .int .i64 (0), .int .i64 (0), .int .i64 (-2), .int .i64 (0), .int .i64 (-1), .int .i64 (0), .int .i64 (0)]) (.int .i64 (2 : Int))).run Tryz.prog w = .ok (.agg #[.int .i64 (-1), .int .i64 (-2)]) w := fun _ => by kernel_rfl
      go_wp2_with (go_at_call 100; go_loud (refine (putAt (k := 2) (ps := coords rows cols (0, row, col)) (hS.out.alloc _) (by simp [coords]) rfl HI.out hpos _ _ rfl).mono ?_; rintro e w' ⟨rfl, hp⟩))
      exact ⟨⟨3, by omega, rfl, hp⟩, by simp [intOf]⟩
    · have ia : ∀ w, (Instr.index 134 (.agg #[.int .i64 (-2), .int .i64 (-2), .int .i64 (-2), .int .i64 (-1), .int .i64 (-1), .int .i64 (-2), .int .i64 (-1), .int .i64 (-1), .int .i64 (-1), .int .i64 (0), .int .i64 (0), .int .i64 (-2), .int .i64 (0), .int .i64 (-1), .int .i64 (0), .int .i64 (0)]) (.int .i64 ((3 : Nat) : Int))).run Tryz.prog w = .ok (.agg #[.int .i64 (-1), .int .i64 (-1)]) w := fun _ => by kernel_rfl
      have ib : ∀ w, (Instr.index 134 (.agg #[.int .i64 (-2), .int .i64 (-2), .int .i64 (-2), .int .i64 (-1), .int .i64 (-1), .int .i64 (-2), .int .i64 (-1), .int .i64 (-1), .int .i64 (-1), .int .i64 (0), .int .i64 (0), .int .i64 (-2), .int .i64 (0), .int .i64 (-1), .int .i64 (0), .int .i64 (0)]) (.int .i64 (3 : Int))).run Tryz.prog w = .ok (.agg #[.int .i64 (-1), .int .i64 (-1)]) w := fun _ => by kernel_rfl
      go_wp2_with (go_at_call 100; go_loud (refine (putAt (k := 3) (ps := coords rows cols (0, row, col)) (hS.out.alloc _) (by simp [coords]) rfl HI.out hpos _ _ rfl).mono ?_; rintro e w' ⟨rfl, hp⟩))
      exact ⟨⟨4, by omega, rfl, hp⟩, by simp [intOf]⟩
    · have ia : ∀ w, (Instr.index 134 (.agg #[.int .i64 (-2), .int .i64 (-2), .int .i64 (-2), .int .i64 (-1), .int .i64 (-1), .int .i64 (-2), .int .i64 (-1), .int .i64 (-1), .int .i64 (-1), .int .i64 (0), .int .i64 (0), .int .i64 (-2), .int .i64 (0), .int .i64 (-1), .int .i64 (0), .int .i64 (0)]) (.int .i64 ((4 : Nat) : Int))).run Tryz.prog w = .ok (.agg #[.int .i64 (-1), .int .i64 (0)]) w := fun _ => by kernel_rfl
      have ib : ∀ w, (Instr.index 134 (.agg #[.int .i64 (-2), .int .i64 (-2), .int .i64 (-2), .int .i64 (-1), .int .i64 (-1), .int .i64 (-2), .int .i64 (-1), .int .i64 (-1), .int .i64 (-1), .int .i64 (0), .int .i64 (0), .int .i64 (-2), .int .i64 (0), .int .i64 (-1), .int .i64 (0), .int .i64 (0)]) (.int .i64 (4 : Int))).run Tryz.prog w = .ok (.agg #[.int .i64 (-1), .int .i64 (0)]) w := fun _ => by kernel_rfl
      go_wp2_with (go_at_call 100; go_loud (refine (putAt (k := 4) (ps := coords rows cols (0, row, col)) (hS.out.alloc _) (by simp [coords]) rfl HI.out hpos _ _ rfl).mono ?_; rintro e w' ⟨rfl, hp⟩))
      exact ⟨⟨5, by omega, rfl, hp⟩, by simp [intOf]⟩
    · have ia : ∀ w, (Instr.index 134 (.agg #[.int .i64 (-2), .int .i64 (-2), .int .i64 (-2), .int .i64 (-1), .int .i64 (-1), .int .i64 (-2), .int .i64 (-1), .int .i64 (-1), .int .i64 (-1), .int .i64 (0), .int .i64 (0), .int .i64 (-2), .int .i64 (0), .int .i64 (-1), .int .i64 (0), .int .i64 (0)]) (.int .i64 ((5 : Nat) : Int))).run Tryz.prog w = .ok (.agg #[.int .i64 (0), .int .i64 (-2)]) w := fun _ => by kernel_rfl
      have ib : ∀ w, (Instr.index 134 (.agg #[.int .i64 (-2), .int .i64 (-2), .int .i64 (-2), .int .i64 (-1), .int .i64 (-1), .int .i64 (-2), .int .i64 (-1), .int .i64 (-1), .int .i64 (-1), .int .i64 (0), .int .i64 (0), .int .i64 (-2), .int .i64 (0), .int .i64 (-1), .int .i64 (0), .int .i64 (0)]) (.int .i64 (5 : Int))).run Tryz.prog w = .ok (.agg #[.int .i64 (0), .int .i64 (-2)]) w := fun _ => by kernel_rfl
      go_wp2_with (go_at_call 100; go_loud (refine (putAt (k := 5) (ps := coords rows cols (0, row, col)) (hS.out.alloc _) (by simp [coords]) rfl HI.out hpos _ _ rfl).mono ?_; rintro e w' ⟨rfl, hp⟩))
      exact ⟨⟨6, by omega, rfl, hp⟩, by simp [intOf]⟩
    · have ia : ∀ w, (Instr.index 134 (.agg #[.int .i64 (-2), .int .i64 (-2), .int .i64 (-2), .int .i64 (-1), .int .i64 (-1), .int .i64 (-2), .int .i64 (-1), .int .i64 (-1), .int .i64 (-1), .int .i64 (0), .int .i64 (0), .int .i64 (-2), .int .i64 (0), .int .i64 (-1), .int .i64 (0), .int .i64 (0)]) (.int .i64 ((6 : Nat) : Int))).run Tryz.prog w = .ok (.agg #[.int .i64 (0), .int .i64 (-1)]) w := fun _ => by kernel_rfl
      have ib : ∀ w, (Instr.index 134 (.agg #[.int .i64 (-2), .int .i64 (-2), .int .i64 (-2), .int .i64 (-1), .int .i64 (-1), .int .i64 (-2), .int .i64 (-1), .int .i64 (-1), .int .i64 (-1), .int .i64 (0), .int .i64 (0), .int .i64 (-2), .int .i64 (0), .int .i64 (-1), .int .i64 (0), .int .i64 (0)]) (.int .i64 (6 : Int))).run Tryz.prog w = .ok (.agg #[.int .i64 (0), .int .i64 (-1)]) w := fun _ => by kernel_rfl
      go_wp2_with (go_at_call 100; go_loud (refine (putAt (k := 6) (ps := coords rows cols (0, row, col)) (hS.out.alloc _) (by simp [coords]) rfl HI.out hpos _ _ rfl).mono ?_; rintro e w' ⟨rfl, hp⟩))
      exact ⟨⟨7, by omega, rfl, hp⟩, by simp [intOf]⟩
    · have ia : ∀ w, (Instr.index 134 (.agg #[.int .i64 (-2), .int .i64 (-2), .int .i64 (-2), .int .i64 (-1), .int .i64 (-1), .int .i64 (-2), .int .i64 (-1), .int .i64 (-1), .int .i64 (-1), .int .i64 (0), .int .i64 (0), .int .i64 (-2), .int .i64 (0), .int .i64 (-1), .int .i64 (0), .int .i64 (0)]) (.int .i64 ((7 : Nat) : Int))).run Tryz.prog w = .ok (.agg #[.int .i64 (0), .int .i64 (0)]) w := fun _ => by kernel_rfl
      have ib : ∀ w, (Instr.index 134 (.agg #[.int .i64 (-2), .int .i64 (-2), .int .i64 (-2), .int .i64 (-1), .int .i64 (-1), .int .i64 (-2), .int .i64 (-1), .int .i64 (-1), .int .i64 (-1), .int .i64 (0), .int .i64 (0), .int .i64 (-2), .int .i64 (0), .int .i64 (-1), .int .i64 (0), .int .i64 (0)]) (.int .i64 (7 : Int))).run Tryz.prog w = .ok (.agg #[.int .i64 (0), .int .i64 (0)]) w := fun _ => by kernel_rfl
      go_wp2_with (go_at_call 100; go_loud (refine (putAt (k := 7) (ps := coords rows cols (0, row, col)) (hS.out.alloc _) (by simp [coords]) rfl HI.out hpos _ _ rfl).mono ?_; rintro e w' ⟨rfl, hp⟩))
      exact ⟨⟨8, by omega, rfl, hp⟩, by simp [intOf]⟩
    · go_wp2
      go_end0
      exact ⟨rfl, hS.out⟩
end Go.Proofs.YtcnallabiffemaaGreatDoor

/- The reference's shapes in the corners. -/
set_option linter.unusedVariables false
set_option linter.unusedSimpArgs false
namespace Go.Proofs.YtcnallabiffemaaGreatDoor
open Go.RowKit

set_option maxRecDepth 100000 in
set_option maxHeartbeats 8000000 in
theorem shape1_calls {w0 w : World} {b bb rows cols : Nat} {bits : List Int} (h : SMem w0 w b bb rows cols bits) (pos : Nat) (hi : ∀ p ∈ coords rows cols (1, 0, 0), InR rows cols p) (hpos : pos ≤ 4000) :
    Calls Tryz.prog 99 #[.pointer (some ⟨b, 0, none⟩), .int .i64 pos, .agg #[.int .i64 (-1), .int .i64 (0), .int .i64 (-1), .int .i64 (1), .int .i64 (-1), .int .i64 (2), .int .i64 (0), .int .i64 (-2), .int .i64 (0), .int .i64 (-1), .int .i64 (1), .int .i64 (-1), .int .i64 (2), .int .i64 (-1), .int .i64 (3), .int .i64 (-1)]] w (SSet w0 b bb rows cols (setLS rows cols pos 0 (coords rows cols (1, 0, 0)) bits)) := by
  have r0 := h.r0
  have r1 := h.r1
  have c0 := h.c0
  have c1 := h.c1
  have H := Lib.hid (h.alloc (.cells #[.int .i64 (-1), .int .i64 (0), .int .i64 (-1), .int .i64 (1), .int .i64 (-1), .int .i64 (2), .int .i64 (0), .int .i64 (-2), .int .i64 (0), .int .i64 (-1), .int .i64 (1), .int .i64 (-1), .int .i64 (2), .int .i64 (-1), .int .i64 (3), .int .i64 (-1)] 134))
  have HI := Lib.hid hi
  clear h hi
  go_enter Tryz.func99, Tryz.ntmps99
  go_wp2
  go_loopw [9] (fun i wr => ∃ k : Nat, k ≤ 8 ∧ i = .int .i64 k ∧ Hid (SMem w0 wr b bb rows cols (setLS rows cols pos 0 ((coords rows cols (1, 0, 0)).take k) bits))) (fun i _ => 8 - (intOf i).toNat)
  case atStart => exact ⟨0, by omega, rfl, H.out⟩
  case round =>
    obtain ⟨k, hk, rfl, hS⟩ := hrel
    obtain rfl | rfl | rfl | rfl | rfl | rfl | rfl | rfl | rfl : k = 0 ∨ k = 1 ∨ k = 2 ∨ k = 3 ∨ k = 4 ∨ k = 5 ∨ k = 6 ∨ k = 7 ∨ k = 8 := by omega
    · have ia : ∀ w, (Instr.index 134 (.agg #[.int .i64 (-1), .int .i64 (0), .int .i64 (-1), .int .i64 (1), .int .i64 (-1), .int .i64 (2), .int .i64 (0), .int .i64 (-2), .int .i64 (0), .int .i64 (-1), .int .i64 (1), .int .i64 (-1), .int .i64 (2), .int .i64 (-1), .int .i64 (3), .int .i64 (-1)]) (.int .i64 ((0 : Nat) : Int))).run Tryz.prog w = .ok (.agg #[.int .i64 (-1), .int .i64 (0)]) w := fun _ => by kernel_rfl
      have ib : ∀ w, (Instr.index 134 (.agg #[.int .i64 (-1), .int .i64 (0), .int .i64 (-1), .int .i64 (1), .int .i64 (-1), .int .i64 (2), .int .i64 (0), .int .i64 (-2), .int .i64 (0), .int .i64 (-1), .int .i64 (1), .int .i64 (-1), .int .i64 (2), .int .i64 (-1), .int .i64 (3), .int .i64 (-1)]) (.int .i64 (0 : Int))).run Tryz.prog w = .ok (.agg #[.int .i64 (-1), .int .i64 (0)]) w := fun _ => by kernel_rfl
      have hlt := hS.out.lb
      have hne : b ≠ wr.heap.size := by omega
      have S0 := hS.out.alloc (.cells #[.int .i64 (-1), .int .i64 (0)] 133)
      have k0 := S0.k0
      have k1 := S0.k1
      have ff := new_last (w := wr) rfl (.cells #[.int .i64 (-1), .int .i64 (0)] 133)
      go_wp2
      have k0d : ∀ v : Value, ((wr.alloc (.cells #[v, .int .i64 (0)] 133)).drew).cell? ⟨b, 1, none⟩ = some (.int .i64 cols) := fun v => (hS.out.alloc _).k1
      go_region
      all_goals go_wp2_with (go_at_call 100; go_loud (refine (putAt (k := 0) (ps := coords rows cols (1, 0, 0)) (((hS.out.alloc _).drew)) (by simp [coords]) rfl HI.out hpos _ _ (by refine Prod.ext ?_ ?_ <;> simp [coords] <;> omega)).mono ?_; rintro e w' ⟨rfl, hp⟩))
      all_goals exact ⟨⟨1, by omega, rfl, hp⟩, by simp [intOf]⟩
    · have ia : ∀ w, (Instr.index 134 (.agg #[.int .i64 (-1), .int .i64 (0), .int .i64 (-1), .int .i64 (1), .int .i64 (-1), .int .i64 (2), .int .i64 (0), .int .i64 (-2), .int .i64 (0), .int .i64 (-1), .int .i64 (1), .int .i64 (-1), .int .i64 (2), .int .i64 (-1), .int .i64 (3), .int .i64 (-1)]) (.int .i64 ((1 : Nat) : Int))).run Tryz.prog w = .ok (.agg #[.int .i64 (-1), .int .i64 (1)]) w := fun _ => by kernel_rfl
      have ib : ∀ w, (Instr.index 134 (.agg #[.int .i64 (-1), .int .i64 (0), .int .i64 (-1), .int .i64 (1), .int .i64 (-1), .int .i64 (2), .int .i64 (0), .int .i64 (-2), .int .i64 (0), .int .i64 (-1), .int .i64 (1), .int .i64 (-1), .int .i64 (2), .int .i64 (-1), .int .i64 (3), .int .i64 (-1)]) (.int .i64 (1 : Int))).run Tryz.prog w = .ok (.agg #[.int .i64 (-1), .int .i64 (1)]) w := fun _ => by kernel_rfl
      have hlt := hS.out.lb
      have hne : b ≠ wr.heap.size := by omega
      have S0 := hS.out.alloc (.cells #[.int .i64 (-1), .int .i64 (1)] 133)
      have k0 := S0.k0
      have k1 := S0.k1
      have ff := new_last (w := wr) rfl (.cells #[.int .i64 (-1), .int .i64 (1)] 133)
      go_wp2
      have k0d : ∀ v : Value, ((wr.alloc (.cells #[v, .int .i64 (1)] 133)).drew).cell? ⟨b, 1, none⟩ = some (.int .i64 cols) := fun v => (hS.out.alloc _).k1
      go_region
      all_goals go_wp2_with (go_at_call 100; go_loud (refine (putAt (k := 1) (ps := coords rows cols (1, 0, 0)) (((hS.out.alloc _).drew)) (by simp [coords]) rfl HI.out hpos _ _ (by refine Prod.ext ?_ ?_ <;> simp [coords] <;> omega)).mono ?_; rintro e w' ⟨rfl, hp⟩))
      all_goals exact ⟨⟨2, by omega, rfl, hp⟩, by simp [intOf]⟩
    · have ia : ∀ w, (Instr.index 134 (.agg #[.int .i64 (-1), .int .i64 (0), .int .i64 (-1), .int .i64 (1), .int .i64 (-1), .int .i64 (2), .int .i64 (0), .int .i64 (-2), .int .i64 (0), .int .i64 (-1), .int .i64 (1), .int .i64 (-1), .int .i64 (2), .int .i64 (-1), .int .i64 (3), .int .i64 (-1)]) (.int .i64 ((2 : Nat) : Int))).run Tryz.prog w = .ok (.agg #[.int .i64 (-1), .int .i64 (2)]) w := fun _ => by kernel_rfl
      have ib : ∀ w, (Instr.index 134 (.agg #[.int .i64 (-1), .int .i64 (0), .int .i64 (-1), .int .i64 (1), .int .i64 (-1), .int .i64 (2), .int .i64 (0), .int .i64 (-2), .int .i64 (0), .int .i64 (-1), .int .i64 (1), .int .i64 (-1), .int .i64 (2), .int .i64 (-1), .int .i64 (3), .int .i64 (-1)]) (.int .i64 (2 : Int))).run Tryz.prog w = .ok (.agg #[.int .i64 (-1), .int .i64 (2)]) w := fun _ => by kernel_rfl
      have hlt := hS.out.lb
      have hne : b ≠ wr.heap.size := by omega
      have S0 := hS.out.alloc (.cells #[.int .i64 (-1), .int .i64 (2)] 133)
      have k0 := S0.k0
      have k1 := S0.k1
      have ff := new_last (w := wr) rfl (.cells #[.int .i64 (-1), .int .i64 (2)] 133)
      go_wp2
      have k0d : ∀ v : Value, ((wr.alloc (.cells #[v, .int .i64 (2)] 133)).drew).cell? ⟨b, 1, none⟩ = some (.int .i64 cols) := fun v => (hS.out.alloc _).k1
      go_region
      all_goals go_wp2_with (go_at_call 100; go_loud (refine (putAt (k := 2) (ps := coords rows cols (1, 0, 0)) (((hS.out.alloc _).drew)) (by simp [coords]) rfl HI.out hpos _ _ (by refine Prod.ext ?_ ?_ <;> simp [coords] <;> omega)).mono ?_; rintro e w' ⟨rfl, hp⟩))
      all_goals exact ⟨⟨3, by omega, rfl, hp⟩, by simp [intOf]⟩
    · have ia : ∀ w, (Instr.index 134 (.agg #[.int .i64 (-1), .int .i64 (0), .int .i64 (-1), .int .i64 (1), .int .i64 (-1), .int .i64 (2), .int .i64 (0), .int .i64 (-2), .int .i64 (0), .int .i64 (-1), .int .i64 (1), .int .i64 (-1), .int .i64 (2), .int .i64 (-1), .int .i64 (3), .int .i64 (-1)]) (.int .i64 ((3 : Nat) : Int))).run Tryz.prog w = .ok (.agg #[.int .i64 (0), .int .i64 (-2)]) w := fun _ => by kernel_rfl
      have ib : ∀ w, (Instr.index 134 (.agg #[.int .i64 (-1), .int .i64 (0), .int .i64 (-1), .int .i64 (1), .int .i64 (-1), .int .i64 (2), .int .i64 (0), .int .i64 (-2), .int .i64 (0), .int .i64 (-1), .int .i64 (1), .int .i64 (-1), .int .i64 (2), .int .i64 (-1), .int .i64 (3), .int .i64 (-1)]) (.int .i64 (3 : Int))).run Tryz.prog w = .ok (.agg #[.int .i64 (0), .int .i64 (-2)]) w := fun _ => by kernel_rfl
      have hlt := hS.out.lb
      have hne : b ≠ wr.heap.size := by omega
      have S0 := hS.out.alloc (.cells #[.int .i64 (0), .int .i64 (-2)] 133)
      have k0 := S0.k0
      have k1 := S0.k1
      have ff := new_last (w := wr) rfl (.cells #[.int .i64 (0), .int .i64 (-2)] 133)
      go_wp2
      have k0d : ∀ v : Value, ((wr.alloc (.cells #[v, .int .i64 (-2)] 133)).drew).cell? ⟨b, 1, none⟩ = some (.int .i64 cols) := fun v => (hS.out.alloc _).k1
      go_region
      all_goals go_wp2_with (go_at_call 100; go_loud (refine (putAt (k := 3) (ps := coords rows cols (1, 0, 0)) (((hS.out.alloc _).drew)) (by simp [coords]) rfl HI.out hpos _ _ (by refine Prod.ext ?_ ?_ <;> simp [coords] <;> omega)).mono ?_; rintro e w' ⟨rfl, hp⟩))
      all_goals exact ⟨⟨4, by omega, rfl, hp⟩, by simp [intOf]⟩
    · have ia : ∀ w, (Instr.index 134 (.agg #[.int .i64 (-1), .int .i64 (0), .int .i64 (-1), .int .i64 (1), .int .i64 (-1), .int .i64 (2), .int .i64 (0), .int .i64 (-2), .int .i64 (0), .int .i64 (-1), .int .i64 (1), .int .i64 (-1), .int .i64 (2), .int .i64 (-1), .int .i64 (3), .int .i64 (-1)]) (.int .i64 ((4 : Nat) : Int))).run Tryz.prog w = .ok (.agg #[.int .i64 (0), .int .i64 (-1)]) w := fun _ => by kernel_rfl
      have ib : ∀ w, (Instr.index 134 (.agg #[.int .i64 (-1), .int .i64 (0), .int .i64 (-1), .int .i64 (1), .int .i64 (-1), .int .i64 (2), .int .i64 (0), .int .i64 (-2), .int .i64 (0), .int .i64 (-1), .int .i64 (1), .int .i64 (-1), .int .i64 (2), .int .i64 (-1), .int .i64 (3), .int .i64 (-1)]) (.int .i64 (4 : Int))).run Tryz.prog w = .ok (.agg #[.int .i64 (0), .int .i64 (-1)]) w := fun _ => by kernel_rfl
      have hlt := hS.out.lb
      have hne : b ≠ wr.heap.size := by omega
      have S0 := hS.out.alloc (.cells #[.int .i64 (0), .int .i64 (-1)] 133)
      have k0 := S0.k0
      have k1 := S0.k1
      have ff := new_last (w := wr) rfl (.cells #[.int .i64 (0), .int .i64 (-1)] 133)
      go_wp2
      have k0d : ∀ v : Value, ((wr.alloc (.cells #[v, .int .i64 (-1)] 133)).drew).cell? ⟨b, 1, none⟩ = some (.int .i64 cols) := fun v => (hS.out.alloc _).k1
      go_region
      all_goals go_wp2_with (go_at_call 100; go_loud (refine (putAt (k := 4) (ps := coords rows cols (1, 0, 0)) (((hS.out.alloc _).drew)) (by simp [coords]) rfl HI.out hpos _ _ (by refine Prod.ext ?_ ?_ <;> simp [coords] <;> omega)).mono ?_; rintro e w' ⟨rfl, hp⟩))
      all_goals exact ⟨⟨5, by omega, rfl, hp⟩, by simp [intOf]⟩
    · have ia : ∀ w, (Instr.index 134 (.agg #[.int .i64 (-1), .int .i64 (0), .int .i64 (-1), .int .i64 (1), .int .i64 (-1), .int .i64 (2), .int .i64 (0), .int .i64 (-2), .int .i64 (0), .int .i64 (-1), .int .i64 (1), .int .i64 (-1), .int .i64 (2), .int .i64 (-1), .int .i64 (3), .int .i64 (-1)]) (.int .i64 ((5 : Nat) : Int))).run Tryz.prog w = .ok (.agg #[.int .i64 (1), .int .i64 (-1)]) w := fun _ => by kernel_rfl
      have ib : ∀ w, (Instr.index 134 (.agg #[.int .i64 (-1), .int .i64 (0), .int .i64 (-1), .int .i64 (1), .int .i64 (-1), .int .i64 (2), .int .i64 (0), .int .i64 (-2), .int .i64 (0), .int .i64 (-1), .int .i64 (1), .int .i64 (-1), .int .i64 (2), .int .i64 (-1), .int .i64 (3), .int .i64 (-1)]) (.int .i64 (5 : Int))).run Tryz.prog w = .ok (.agg #[.int .i64 (1), .int .i64 (-1)]) w := fun _ => by kernel_rfl
      have hlt := hS.out.lb
      have hne : b ≠ wr.heap.size := by omega
      have S0 := hS.out.alloc (.cells #[.int .i64 (1), .int .i64 (-1)] 133)
      have k0 := S0.k0
      have k1 := S0.k1
      have ff := new_last (w := wr) rfl (.cells #[.int .i64 (1), .int .i64 (-1)] 133)
      go_wp2
      have k0d : ∀ v : Value, ((wr.alloc (.cells #[v, .int .i64 (-1)] 133)).drew).cell? ⟨b, 1, none⟩ = some (.int .i64 cols) := fun v => (hS.out.alloc _).k1
      go_region
      all_goals go_wp2_with (go_at_call 100; go_loud (refine (putAt (k := 5) (ps := coords rows cols (1, 0, 0)) (((hS.out.alloc _).drew)) (by simp [coords]) rfl HI.out hpos _ _ (by refine Prod.ext ?_ ?_ <;> simp [coords] <;> omega)).mono ?_; rintro e w' ⟨rfl, hp⟩))
      all_goals exact ⟨⟨6, by omega, rfl, hp⟩, by simp [intOf]⟩
    · have ia : ∀ w, (Instr.index 134 (.agg #[.int .i64 (-1), .int .i64 (0), .int .i64 (-1), .int .i64 (1), .int .i64 (-1), .int .i64 (2), .int .i64 (0), .int .i64 (-2), .int .i64 (0), .int .i64 (-1), .int .i64 (1), .int .i64 (-1), .int .i64 (2), .int .i64 (-1), .int .i64 (3), .int .i64 (-1)]) (.int .i64 ((6 : Nat) : Int))).run Tryz.prog w = .ok (.agg #[.int .i64 (2), .int .i64 (-1)]) w := fun _ => by kernel_rfl
      have ib : ∀ w, (Instr.index 134 (.agg #[.int .i64 (-1), .int .i64 (0), .int .i64 (-1), .int .i64 (1), .int .i64 (-1), .int .i64 (2), .int .i64 (0), .int .i64 (-2), .int .i64 (0), .int .i64 (-1), .int .i64 (1), .int .i64 (-1), .int .i64 (2), .int .i64 (-1), .int .i64 (3), .int .i64 (-1)]) (.int .i64 (6 : Int))).run Tryz.prog w = .ok (.agg #[.int .i64 (2), .int .i64 (-1)]) w := fun _ => by kernel_rfl
      have hlt := hS.out.lb
      have hne : b ≠ wr.heap.size := by omega
      have S0 := hS.out.alloc (.cells #[.int .i64 (2), .int .i64 (-1)] 133)
      have k0 := S0.k0
      have k1 := S0.k1
      have ff := new_last (w := wr) rfl (.cells #[.int .i64 (2), .int .i64 (-1)] 133)
      go_wp2
      have k0d : ∀ v : Value, ((wr.alloc (.cells #[v, .int .i64 (-1)] 133)).drew).cell? ⟨b, 1, none⟩ = some (.int .i64 cols) := fun v => (hS.out.alloc _).k1
      go_region
      all_goals go_wp2_with (go_at_call 100; go_loud (refine (putAt (k := 6) (ps := coords rows cols (1, 0, 0)) (((hS.out.alloc _).drew)) (by simp [coords]) rfl HI.out hpos _ _ (by refine Prod.ext ?_ ?_ <;> simp [coords] <;> omega)).mono ?_; rintro e w' ⟨rfl, hp⟩))
      all_goals exact ⟨⟨7, by omega, rfl, hp⟩, by simp [intOf]⟩
    · have ia : ∀ w, (Instr.index 134 (.agg #[.int .i64 (-1), .int .i64 (0), .int .i64 (-1), .int .i64 (1), .int .i64 (-1), .int .i64 (2), .int .i64 (0), .int .i64 (-2), .int .i64 (0), .int .i64 (-1), .int .i64 (1), .int .i64 (-1), .int .i64 (2), .int .i64 (-1), .int .i64 (3), .int .i64 (-1)]) (.int .i64 ((7 : Nat) : Int))).run Tryz.prog w = .ok (.agg #[.int .i64 (3), .int .i64 (-1)]) w := fun _ => by kernel_rfl
      have ib : ∀ w, (Instr.index 134 (.agg #[.int .i64 (-1), .int .i64 (0), .int .i64 (-1), .int .i64 (1), .int .i64 (-1), .int .i64 (2), .int .i64 (0), .int .i64 (-2), .int .i64 (0), .int .i64 (-1), .int .i64 (1), .int .i64 (-1), .int .i64 (2), .int .i64 (-1), .int .i64 (3), .int .i64 (-1)]) (.int .i64 (7 : Int))).run Tryz.prog w = .ok (.agg #[.int .i64 (3), .int .i64 (-1)]) w := fun _ => by kernel_rfl
      have hlt := hS.out.lb
      have hne : b ≠ wr.heap.size := by omega
      have S0 := hS.out.alloc (.cells #[.int .i64 (3), .int .i64 (-1)] 133)
      have k0 := S0.k0
      have k1 := S0.k1
      have ff := new_last (w := wr) rfl (.cells #[.int .i64 (3), .int .i64 (-1)] 133)
      go_wp2
      have k0d : ∀ v : Value, ((wr.alloc (.cells #[v, .int .i64 (-1)] 133)).drew).cell? ⟨b, 1, none⟩ = some (.int .i64 cols) := fun v => (hS.out.alloc _).k1
      go_region
      all_goals go_wp2_with (go_at_call 100; go_loud (refine (putAt (k := 7) (ps := coords rows cols (1, 0, 0)) (((hS.out.alloc _).drew)) (by simp [coords]) rfl HI.out hpos _ _ (by refine Prod.ext ?_ ?_ <;> simp [coords] <;> omega)).mono ?_; rintro e w' ⟨rfl, hp⟩))
      all_goals exact ⟨⟨8, by omega, rfl, hp⟩, by simp [intOf]⟩
    · go_wp2
      go_end0
      exact ⟨rfl, hS.out⟩

set_option maxRecDepth 100000 in
set_option maxHeartbeats 8000000 in
theorem shape2_calls {w0 w : World} {b bb rows cols : Nat} {bits : List Int} (h : SMem w0 w b bb rows cols bits) (pos : Nat) (hi : ∀ p ∈ coords rows cols (2, 0, 0), InR rows cols p) (hpos : pos ≤ 4000) :
    Calls Tryz.prog 99 #[.pointer (some ⟨b, 0, none⟩), .int .i64 pos, .agg #[.int .i64 (-3), .int .i64 (0), .int .i64 (-2), .int .i64 (0), .int .i64 (-1), .int .i64 (0), .int .i64 (0), .int .i64 (-4), .int .i64 (0), .int .i64 (-3), .int .i64 (0), .int .i64 (-2), .int .i64 (0), .int .i64 (-1), .int .i64 (1), .int .i64 (-1)]] w (SSet w0 b bb rows cols (setLS rows cols pos 0 (coords rows cols (2, 0, 0)) bits)) := by
  have r0 := h.r0
  have r1 := h.r1
  have c0 := h.c0
  have c1 := h.c1
  have H := Lib.hid (h.alloc (.cells #[.int .i64 (-3), .int .i64 (0), .int .i64 (-2), .int .i64 (0), .int .i64 (-1), .int .i64 (0), .int .i64 (0), .int .i64 (-4), .int .i64 (0), .int .i64 (-3), .int .i64 (0), .int .i64 (-2), .int .i64 (0), .int .i64 (-1), .int .i64 (1), .int .i64 (-1)] 134))
  have HI := Lib.hid hi
  clear h hi
  go_enter Tryz.func99, Tryz.ntmps99
  go_wp2
  go_loopw [9] (fun i wr => ∃ k : Nat, k ≤ 8 ∧ i = .int .i64 k ∧ Hid (SMem w0 wr b bb rows cols (setLS rows cols pos 0 ((coords rows cols (2, 0, 0)).take k) bits))) (fun i _ => 8 - (intOf i).toNat)
  case atStart => exact ⟨0, by omega, rfl, H.out⟩
  case round =>
    obtain ⟨k, hk, rfl, hS⟩ := hrel
    obtain rfl | rfl | rfl | rfl | rfl | rfl | rfl | rfl | rfl : k = 0 ∨ k = 1 ∨ k = 2 ∨ k = 3 ∨ k = 4 ∨ k = 5 ∨ k = 6 ∨ k = 7 ∨ k = 8 := by omega
    · have ia : ∀ w, (Instr.index 134 (.agg #[.int .i64 (-3), .int .i64 (0), .int .i64 (-2), .int .i64 (0), .int .i64 (-1), .int .i64 (0), .int .i64 (0), .int .i64 (-4), .int .i64 (0), .int .i64 (-3), .int .i64 (0), .int .i64 (-2), .int .i64 (0), .int .i64 (-1), .int .i64 (1), .int .i64 (-1)]) (.int .i64 ((0 : Nat) : Int))).run Tryz.prog w = .ok (.agg #[.int .i64 (-3), .int .i64 (0)]) w := fun _ => by kernel_rfl
      have ib : ∀ w, (Instr.index 134 (.agg #[.int .i64 (-3), .int .i64 (0), .int .i64 (-2), .int .i64 (0), .int .i64 (-1), .int .i64 (0), .int .i64 (0), .int .i64 (-4), .int .i64 (0), .int .i64 (-3), .int .i64 (0), .int .i64 (-2), .int .i64 (0), .int .i64 (-1), .int .i64 (1), .int .i64 (-1)]) (.int .i64 (0 : Int))).run Tryz.prog w = .ok (.agg #[.int .i64 (-3), .int .i64 (0)]) w := fun _ => by kernel_rfl
      have hlt := hS.out.lb
      have hne : b ≠ wr.heap.size := by omega
      have S0 := hS.out.alloc (.cells #[.int .i64 (-3), .int .i64 (0)] 133)
      have k0 := S0.k0
      have k1 := S0.k1
      have ff := new_last (w := wr) rfl (.cells #[.int .i64 (-3), .int .i64 (0)] 133)
      go_wp2
      have k0d : ∀ v : Value, ((wr.alloc (.cells #[v, .int .i64 (0)] 133)).drew).cell? ⟨b, 1, none⟩ = some (.int .i64 cols) := fun v => (hS.out.alloc _).k1
      go_region
      all_goals go_wp2_with (go_at_call 100; go_loud (refine (putAt (k := 0) (ps := coords rows cols (2, 0, 0)) (((hS.out.alloc _).drew)) (by simp [coords]) rfl HI.out hpos _ _ (by refine Prod.ext ?_ ?_ <;> simp [coords] <;> omega)).mono ?_; rintro e w' ⟨rfl, hp⟩))
      all_goals exact ⟨⟨1, by omega, rfl, hp⟩, by simp [intOf]⟩
    · have ia : ∀ w, (Instr.index 134 (.agg #[.int .i64 (-3), .int .i64 (0), .int .i64 (-2), .int .i64 (0), .int .i64 (-1), .int .i64 (0), .int .i64 (0), .int .i64 (-4), .int .i64 (0), .int .i64 (-3), .int .i64 (0), .int .i64 (-2), .int .i64 (0), .int .i64 (-1), .int .i64 (1), .int .i64 (-1)]) (.int .i64 ((1 : Nat) : Int))).run Tryz.prog w = .ok (.agg #[.int .i64 (-2), .int .i64 (0)]) w := fun _ => by kernel_rfl
      have ib : ∀ w, (Instr.index 134 (.agg #[.int .i64 (-3), .int .i64 (0), .int .i64 (-2), .int .i64 (0), .int .i64 (-1), .int .i64 (0), .int .i64 (0), .int .i64 (-4), .int .i64 (0), .int .i64 (-3), .int .i64 (0), .int .i64 (-2), .int .i64 (0), .int .i64 (-1), .int .i64 (1), .int .i64 (-1)]) (.int .i64 (1 : Int))).run Tryz.prog w = .ok (.agg #[.int .i64 (-2), .int .i64 (0)]) w := fun _ => by kernel_rfl
      have hlt := hS.out.lb
      have hne : b ≠ wr.heap.size := by omega
      have S0 := hS.out.alloc (.cells #[.int .i64 (-2), .int .i64 (0)] 133)
      have k0 := S0.k0
      have k1 := S0.k1
      have ff := new_last (w := wr) rfl (.cells #[.int .i64 (-2), .int .i64 (0)] 133)
      go_wp2
      have k0d : ∀ v : Value, ((wr.alloc (.cells #[v, .int .i64 (0)] 133)).drew).cell? ⟨b, 1, none⟩ = some (.int .i64 cols) := fun v => (hS.out.alloc _).k1
      go_region
      all_goals go_wp2_with (go_at_call 100; go_loud (refine (putAt (k := 1) (ps := coords rows cols (2, 0, 0)) (((hS.out.alloc _).drew)) (by simp [coords]) rfl HI.out hpos _ _ (by refine Prod.ext ?_ ?_ <;> simp [coords] <;> omega)).mono ?_; rintro e w' ⟨rfl, hp⟩))
      all_goals exact ⟨⟨2, by omega, rfl, hp⟩, by simp [intOf]⟩
    · have ia : ∀ w, (Instr.index 134 (.agg #[.int .i64 (-3), .int .i64 (0), .int .i64 (-2), .int .i64 (0), .int .i64 (-1), .int .i64 (0), .int .i64 (0), .int .i64 (-4), .int .i64 (0), .int .i64 (-3), .int .i64 (0), .int .i64 (-2), .int .i64 (0), .int .i64 (-1), .int .i64 (1), .int .i64 (-1)]) (.int .i64 ((2 : Nat) : Int))).run Tryz.prog w = .ok (.agg #[.int .i64 (-1), .int .i64 (0)]) w := fun _ => by kernel_rfl
      have ib : ∀ w, (Instr.index 134 (.agg #[.int .i64 (-3), .int .i64 (0), .int .i64 (-2), .int .i64 (0), .int .i64 (-1), .int .i64 (0), .int .i64 (0), .int .i64 (-4), .int .i64 (0), .int .i64 (-3), .int .i64 (0), .int .i64 (-2), .int .i64 (0), .int .i64 (-1), .int .i64 (1), .int .i64 (-1)]) (.int .i64 (2 : Int))).run Tryz.prog w = .ok (.agg #[.int .i64 (-1), .int .i64 (0)]) w := fun _ => by kernel_rfl
      have hlt := hS.out.lb
      have hne : b ≠ wr.heap.size := by omega
      have S0 := hS.out.alloc (.cells #[.int .i64 (-1), .int .i64 (0)] 133)
      have k0 := S0.k0
      have k1 := S0.k1
      have ff := new_last (w := wr) rfl (.cells #[.int .i64 (-1), .int .i64 (0)] 133)
      go_wp2
      have k0d : ∀ v : Value, ((wr.alloc (.cells #[v, .int .i64 (0)] 133)).drew).cell? ⟨b, 1, none⟩ = some (.int .i64 cols) := fun v => (hS.out.alloc _).k1
      go_region
      all_goals go_wp2_with (go_at_call 100; go_loud (refine (putAt (k := 2) (ps := coords rows cols (2, 0, 0)) (((hS.out.alloc _).drew)) (by simp [coords]) rfl HI.out hpos _ _ (by refine Prod.ext ?_ ?_ <;> simp [coords] <;> omega)).mono ?_; rintro e w' ⟨rfl, hp⟩))
      all_goals exact ⟨⟨3, by omega, rfl, hp⟩, by simp [intOf]⟩
    · have ia : ∀ w, (Instr.index 134 (.agg #[.int .i64 (-3), .int .i64 (0), .int .i64 (-2), .int .i64 (0), .int .i64 (-1), .int .i64 (0), .int .i64 (0), .int .i64 (-4), .int .i64 (0), .int .i64 (-3), .int .i64 (0), .int .i64 (-2), .int .i64 (0), .int .i64 (-1), .int .i64 (1), .int .i64 (-1)]) (.int .i64 ((3 : Nat) : Int))).run Tryz.prog w = .ok (.agg #[.int .i64 (0), .int .i64 (-4)]) w := fun _ => by kernel_rfl
      have ib : ∀ w, (Instr.index 134 (.agg #[.int .i64 (-3), .int .i64 (0), .int .i64 (-2), .int .i64 (0), .int .i64 (-1), .int .i64 (0), .int .i64 (0), .int .i64 (-4), .int .i64 (0), .int .i64 (-3), .int .i64 (0), .int .i64 (-2), .int .i64 (0), .int .i64 (-1), .int .i64 (1), .int .i64 (-1)]) (.int .i64 (3 : Int))).run Tryz.prog w = .ok (.agg #[.int .i64 (0), .int .i64 (-4)]) w := fun _ => by kernel_rfl
      have hlt := hS.out.lb
      have hne : b ≠ wr.heap.size := by omega
      have S0 := hS.out.alloc (.cells #[.int .i64 (0), .int .i64 (-4)] 133)
      have k0 := S0.k0
      have k1 := S0.k1
      have ff := new_last (w := wr) rfl (.cells #[.int .i64 (0), .int .i64 (-4)] 133)
      go_wp2
      have k0d : ∀ v : Value, ((wr.alloc (.cells #[v, .int .i64 (-4)] 133)).drew).cell? ⟨b, 1, none⟩ = some (.int .i64 cols) := fun v => (hS.out.alloc _).k1
      go_region
      all_goals go_wp2_with (go_at_call 100; go_loud (refine (putAt (k := 3) (ps := coords rows cols (2, 0, 0)) (((hS.out.alloc _).drew)) (by simp [coords]) rfl HI.out hpos _ _ (by refine Prod.ext ?_ ?_ <;> simp [coords] <;> omega)).mono ?_; rintro e w' ⟨rfl, hp⟩))
      all_goals exact ⟨⟨4, by omega, rfl, hp⟩, by simp [intOf]⟩
    · have ia : ∀ w, (Instr.index 134 (.agg #[.int .i64 (-3), .int .i64 (0), .int .i64 (-2), .int .i64 (0), .int .i64 (-1), .int .i64 (0), .int .i64 (0), .int .i64 (-4), .int .i64 (0), .int .i64 (-3), .int .i64 (0), .int .i64 (-2), .int .i64 (0), .int .i64 (-1), .int .i64 (1), .int .i64 (-1)]) (.int .i64 ((4 : Nat) : Int))).run Tryz.prog w = .ok (.agg #[.int .i64 (0), .int .i64 (-3)]) w := fun _ => by kernel_rfl
      have ib : ∀ w, (Instr.index 134 (.agg #[.int .i64 (-3), .int .i64 (0), .int .i64 (-2), .int .i64 (0), .int .i64 (-1), .int .i64 (0), .int .i64 (0), .int .i64 (-4), .int .i64 (0), .int .i64 (-3), .int .i64 (0), .int .i64 (-2), .int .i64 (0), .int .i64 (-1), .int .i64 (1), .int .i64 (-1)]) (.int .i64 (4 : Int))).run Tryz.prog w = .ok (.agg #[.int .i64 (0), .int .i64 (-3)]) w := fun _ => by kernel_rfl
      have hlt := hS.out.lb
      have hne : b ≠ wr.heap.size := by omega
      have S0 := hS.out.alloc (.cells #[.int .i64 (0), .int .i64 (-3)] 133)
      have k0 := S0.k0
      have k1 := S0.k1
      have ff := new_last (w := wr) rfl (.cells #[.int .i64 (0), .int .i64 (-3)] 133)
      go_wp2
      have k0d : ∀ v : Value, ((wr.alloc (.cells #[v, .int .i64 (-3)] 133)).drew).cell? ⟨b, 1, none⟩ = some (.int .i64 cols) := fun v => (hS.out.alloc _).k1
      go_region
      all_goals go_wp2_with (go_at_call 100; go_loud (refine (putAt (k := 4) (ps := coords rows cols (2, 0, 0)) (((hS.out.alloc _).drew)) (by simp [coords]) rfl HI.out hpos _ _ (by refine Prod.ext ?_ ?_ <;> simp [coords] <;> omega)).mono ?_; rintro e w' ⟨rfl, hp⟩))
      all_goals exact ⟨⟨5, by omega, rfl, hp⟩, by simp [intOf]⟩
    · have ia : ∀ w, (Instr.index 134 (.agg #[.int .i64 (-3), .int .i64 (0), .int .i64 (-2), .int .i64 (0), .int .i64 (-1), .int .i64 (0), .int .i64 (0), .int .i64 (-4), .int .i64 (0), .int .i64 (-3), .int .i64 (0), .int .i64 (-2), .int .i64 (0), .int .i64 (-1), .int .i64 (1), .int .i64 (-1)]) (.int .i64 ((5 : Nat) : Int))).run Tryz.prog w = .ok (.agg #[.int .i64 (0), .int .i64 (-2)]) w := fun _ => by kernel_rfl
      have ib : ∀ w, (Instr.index 134 (.agg #[.int .i64 (-3), .int .i64 (0), .int .i64 (-2), .int .i64 (0), .int .i64 (-1), .int .i64 (0), .int .i64 (0), .int .i64 (-4), .int .i64 (0), .int .i64 (-3), .int .i64 (0), .int .i64 (-2), .int .i64 (0), .int .i64 (-1), .int .i64 (1), .int .i64 (-1)]) (.int .i64 (5 : Int))).run Tryz.prog w = .ok (.agg #[.int .i64 (0), .int .i64 (-2)]) w := fun _ => by kernel_rfl
      have hlt := hS.out.lb
      have hne : b ≠ wr.heap.size := by omega
      have S0 := hS.out.alloc (.cells #[.int .i64 (0), .int .i64 (-2)] 133)
      have k0 := S0.k0
      have k1 := S0.k1
      have ff := new_last (w := wr) rfl (.cells #[.int .i64 (0), .int .i64 (-2)] 133)
      go_wp2
      have k0d : ∀ v : Value, ((wr.alloc (.cells #[v, .int .i64 (-2)] 133)).drew).cell? ⟨b, 1, none⟩ = some (.int .i64 cols) := fun v => (hS.out.alloc _).k1
      go_region
      all_goals go_wp2_with (go_at_call 100; go_loud (refine (putAt (k := 5) (ps := coords rows cols (2, 0, 0)) (((hS.out.alloc _).drew)) (by simp [coords]) rfl HI.out hpos _ _ (by refine Prod.ext ?_ ?_ <;> simp [coords] <;> omega)).mono ?_; rintro e w' ⟨rfl, hp⟩))
      all_goals exact ⟨⟨6, by omega, rfl, hp⟩, by simp [intOf]⟩
    · have ia : ∀ w, (Instr.index 134 (.agg #[.int .i64 (-3), .int .i64 (0), .int .i64 (-2), .int .i64 (0), .int .i64 (-1), .int .i64 (0), .int .i64 (0), .int .i64 (-4), .int .i64 (0), .int .i64 (-3), .int .i64 (0), .int .i64 (-2), .int .i64 (0), .int .i64 (-1), .int .i64 (1), .int .i64 (-1)]) (.int .i64 ((6 : Nat) : Int))).run Tryz.prog w = .ok (.agg #[.int .i64 (0), .int .i64 (-1)]) w := fun _ => by kernel_rfl
      have ib : ∀ w, (Instr.index 134 (.agg #[.int .i64 (-3), .int .i64 (0), .int .i64 (-2), .int .i64 (0), .int .i64 (-1), .int .i64 (0), .int .i64 (0), .int .i64 (-4), .int .i64 (0), .int .i64 (-3), .int .i64 (0), .int .i64 (-2), .int .i64 (0), .int .i64 (-1), .int .i64 (1), .int .i64 (-1)]) (.int .i64 (6 : Int))).run Tryz.prog w = .ok (.agg #[.int .i64 (0), .int .i64 (-1)]) w := fun _ => by kernel_rfl
      have hlt := hS.out.lb
      have hne : b ≠ wr.heap.size := by omega
      have S0 := hS.out.alloc (.cells #[.int .i64 (0), .int .i64 (-1)] 133)
      have k0 := S0.k0
      have k1 := S0.k1
      have ff := new_last (w := wr) rfl (.cells #[.int .i64 (0), .int .i64 (-1)] 133)
      go_wp2
      have k0d : ∀ v : Value, ((wr.alloc (.cells #[v, .int .i64 (-1)] 133)).drew).cell? ⟨b, 1, none⟩ = some (.int .i64 cols) := fun v => (hS.out.alloc _).k1
      go_region
      all_goals go_wp2_with (go_at_call 100; go_loud (refine (putAt (k := 6) (ps := coords rows cols (2, 0, 0)) (((hS.out.alloc _).drew)) (by simp [coords]) rfl HI.out hpos _ _ (by refine Prod.ext ?_ ?_ <;> simp [coords] <;> omega)).mono ?_; rintro e w' ⟨rfl, hp⟩))
      all_goals exact ⟨⟨7, by omega, rfl, hp⟩, by simp [intOf]⟩
    · have ia : ∀ w, (Instr.index 134 (.agg #[.int .i64 (-3), .int .i64 (0), .int .i64 (-2), .int .i64 (0), .int .i64 (-1), .int .i64 (0), .int .i64 (0), .int .i64 (-4), .int .i64 (0), .int .i64 (-3), .int .i64 (0), .int .i64 (-2), .int .i64 (0), .int .i64 (-1), .int .i64 (1), .int .i64 (-1)]) (.int .i64 ((7 : Nat) : Int))).run Tryz.prog w = .ok (.agg #[.int .i64 (1), .int .i64 (-1)]) w := fun _ => by kernel_rfl
      have ib : ∀ w, (Instr.index 134 (.agg #[.int .i64 (-3), .int .i64 (0), .int .i64 (-2), .int .i64 (0), .int .i64 (-1), .int .i64 (0), .int .i64 (0), .int .i64 (-4), .int .i64 (0), .int .i64 (-3), .int .i64 (0), .int .i64 (-2), .int .i64 (0), .int .i64 (-1), .int .i64 (1), .int .i64 (-1)]) (.int .i64 (7 : Int))).run Tryz.prog w = .ok (.agg #[.int .i64 (1), .int .i64 (-1)]) w := fun _ => by kernel_rfl
      have hlt := hS.out.lb
      have hne : b ≠ wr.heap.size := by omega
      have S0 := hS.out.alloc (.cells #[.int .i64 (1), .int .i64 (-1)] 133)
      have k0 := S0.k0
      have k1 := S0.k1
      have ff := new_last (w := wr) rfl (.cells #[.int .i64 (1), .int .i64 (-1)] 133)
      go_wp2
      have k0d : ∀ v : Value, ((wr.alloc (.cells #[v, .int .i64 (-1)] 133)).drew).cell? ⟨b, 1, none⟩ = some (.int .i64 cols) := fun v => (hS.out.alloc _).k1
      go_region
      all_goals go_wp2_with (go_at_call 100; go_loud (refine (putAt (k := 7) (ps := coords rows cols (2, 0, 0)) (((hS.out.alloc _).drew)) (by simp [coords]) rfl HI.out hpos _ _ (by refine Prod.ext ?_ ?_ <;> simp [coords] <;> omega)).mono ?_; rintro e w' ⟨rfl, hp⟩))
      all_goals exact ⟨⟨8, by omega, rfl, hp⟩, by simp [intOf]⟩
    · go_wp2
      go_end0
      exact ⟨rfl, hS.out⟩

set_option maxRecDepth 100000 in
set_option maxHeartbeats 8000000 in
theorem shape3_calls {w0 w : World} {b bb rows cols : Nat} {bits : List Int} (h : SMem w0 w b bb rows cols bits) (pos : Nat) (hi : ∀ p ∈ coords rows cols (3, 0, 0), InR rows cols p) (hpos : pos ≤ 4000) :
    Calls Tryz.prog 99 #[.pointer (some ⟨b, 0, none⟩), .int .i64 pos, .agg #[.int .i64 (-3), .int .i64 (0), .int .i64 (-2), .int .i64 (0), .int .i64 (-1), .int .i64 (0), .int .i64 (0), .int .i64 (-2), .int .i64 (0), .int .i64 (-1), .int .i64 (1), .int .i64 (-1), .int .i64 (2), .int .i64 (-1), .int .i64 (3), .int .i64 (-1)]] w (SSet w0 b bb rows cols (setLS rows cols pos 0 (coords rows cols (3, 0, 0)) bits)) := by
  have r0 := h.r0
  have r1 := h.r1
  have c0 := h.c0
  have c1 := h.c1
  have H := Lib.hid (h.alloc (.cells #[.int .i64 (-3), .int .i64 (0), .int .i64 (-2), .int .i64 (0), .int .i64 (-1), .int .i64 (0), .int .i64 (0), .int .i64 (-2), .int .i64 (0), .int .i64 (-1), .int .i64 (1), .int .i64 (-1), .int .i64 (2), .int .i64 (-1), .int .i64 (3), .int .i64 (-1)] 134))
  have HI := Lib.hid hi
  clear h hi
  go_enter Tryz.func99, Tryz.ntmps99
  go_wp2
  go_loopw [9] (fun i wr => ∃ k : Nat, k ≤ 8 ∧ i = .int .i64 k ∧ Hid (SMem w0 wr b bb rows cols (setLS rows cols pos 0 ((coords rows cols (3, 0, 0)).take k) bits))) (fun i _ => 8 - (intOf i).toNat)
  case atStart => exact ⟨0, by omega, rfl, H.out⟩
  case round =>
    obtain ⟨k, hk, rfl, hS⟩ := hrel
    obtain rfl | rfl | rfl | rfl | rfl | rfl | rfl | rfl | rfl : k = 0 ∨ k = 1 ∨ k = 2 ∨ k = 3 ∨ k = 4 ∨ k = 5 ∨ k = 6 ∨ k = 7 ∨ k = 8 := by omega
    · have ia : ∀ w, (Instr.index 134 (.agg #[.int .i64 (-3), .int .i64 (0), .int .i64 (-2), .int .i64 (0), .int .i64 (-1), .int .i64 (0), .int .i64 (0), .int .i64 (-2), .int .i64 (0), .int .i64 (-1), .int .i64 (1), .int .i64 (-1), .int .i64 (2), .int .i64 (-1), .int .i64 (3), .int .i64 (-1)]) (.int .i64 ((0 : Nat) : Int))).run Tryz.prog w = .ok (.agg #[.int .i64 (-3), .int .i64 (0)]) w := fun _ => by kernel_rfl
      have ib : ∀ w, (Instr.index 134 (.agg #[.int .i64 (-3), .int .i64 (0), .int .i64 (-2), .int .i64 (0), .int .i64 (-1), .int .i64 (0), .int .i64 (0), .int .i64 (-2), .int .i64 (0), .int .i64 (-1), .int .i64 (1), .int .i64 (-1), .int .i64 (2), .int .i64 (-1), .int .i64 (3), .int .i64 (-1)]) (.int .i64 (0 : Int))).run Tryz.prog w = .ok (.agg #[.int .i64 (-3), .int .i64 (0)]) w := fun _ => by kernel_rfl
      have hlt := hS.out.lb
      have hne : b ≠ wr.heap.size := by omega
      have S0 := hS.out.alloc (.cells #[.int .i64 (-3), .int .i64 (0)] 133)
      have k0 := S0.k0
      have k1 := S0.k1
      have ff := new_last (w := wr) rfl (.cells #[.int .i64 (-3), .int .i64 (0)] 133)
      go_wp2
      have k0d : ∀ v : Value, ((wr.alloc (.cells #[v, .int .i64 (0)] 133)).drew).cell? ⟨b, 1, none⟩ = some (.int .i64 cols) := fun v => (hS.out.alloc _).k1
      go_region
      all_goals go_wp2_with (go_at_call 100; go_loud (refine (putAt (k := 0) (ps := coords rows cols (3, 0, 0)) (((hS.out.alloc _).drew)) (by simp [coords]) rfl HI.out hpos _ _ (by refine Prod.ext ?_ ?_ <;> simp [coords] <;> omega)).mono ?_; rintro e w' ⟨rfl, hp⟩))
      all_goals exact ⟨⟨1, by omega, rfl, hp⟩, by simp [intOf]⟩
    · have ia : ∀ w, (Instr.index 134 (.agg #[.int .i64 (-3), .int .i64 (0), .int .i64 (-2), .int .i64 (0), .int .i64 (-1), .int .i64 (0), .int .i64 (0), .int .i64 (-2), .int .i64 (0), .int .i64 (-1), .int .i64 (1), .int .i64 (-1), .int .i64 (2), .int .i64 (-1), .int .i64 (3), .int .i64 (-1)]) (.int .i64 ((1 : Nat) : Int))).run Tryz.prog w = .ok (.agg #[.int .i64 (-2), .int .i64 (0)]) w := fun _ => by kernel_rfl
      have ib : ∀ w, (Instr.index 134 (.agg #[.int .i64 (-3), .int .i64 (0), .int .i64 (-2), .int .i64 (0), .int .i64 (-1), .int .i64 (0), .int .i64 (0), .int .i64 (-2), .int .i64 (0), .int .i64 (-1), .int .i64 (1), .int .i64 (-1), .int .i64 (2), .int .i64 (-1), .int .i64 (3), .int .i64 (-1)]) (.int .i64 (1 : Int))).run Tryz.prog w = .ok (.agg #[.int .i64 (-2), .int .i64 (0)]) w := fun _ => by kernel_rfl
      have hlt := hS.out.lb
      have hne : b ≠ wr.heap.size := by omega
      have S0 := hS.out.alloc (.cells #[.int .i64 (-2), .int .i64 (0)] 133)
      have k0 := S0.k0
      have k1 := S0.k1
      have ff := new_last (w := wr) rfl (.cells #[.int .i64 (-2), .int .i64 (0)] 133)
      go_wp2
      have k0d : ∀ v : Value, ((wr.alloc (.cells #[v, .int .i64 (0)] 133)).drew).cell? ⟨b, 1, none⟩ = some (.int .i64 cols) := fun v => (hS.out.alloc _).k1
      go_region
      all_goals go_wp2_with (go_at_call 100; go_loud (refine (putAt (k := 1) (ps := coords rows cols (3, 0, 0)) (((hS.out.alloc _).drew)) (by simp [coords]) rfl HI.out hpos _ _ (by refine Prod.ext ?_ ?_ <;> simp [coords] <;> omega)).mono ?_; rintro e w' ⟨rfl, hp⟩))
      all_goals exact ⟨⟨2, by omega, rfl, hp⟩, by simp [intOf]⟩
    · have ia : ∀ w, (Instr.index 134 (.agg #[.int .i64 (-3), .int .i64 (0), .int .i64 (-2), .int .i64 (0), .int .i64 (-1), .int .i64 (0), .int .i64 (0), .int .i64 (-2), .int .i64 (0), .int .i64 (-1), .int .i64 (1), .int .i64 (-1), .int .i64 (2), .int .i64 (-1), .int .i64 (3), .int .i64 (-1)]) (.int .i64 ((2 : Nat) : Int))).run Tryz.prog w = .ok (.agg #[.int .i64 (-1), .int .i64 (0)]) w := fun _ => by kernel_rfl
      have ib : ∀ w, (Instr.index 134 (.agg #[.int .i64 (-3), .int .i64 (0), .int .i64 (-2), .int .i64 (0), .int .i64 (-1), .int .i64 (0), .int .i64 (0), .int .i64 (-2), .int .i64 (0), .int .i64 (-1), .int .i64 (1), .int .i64 (-1), .int .i64 (2), .int .i64 (-1), .int .i64 (3), .int .i64 (-1)]) (.int .i64 (2 : Int))).run Tryz.prog w = .ok (.agg #[.int .i64 (-1), .int .i64 (0)]) w := fun _ => by kernel_rfl
      have hlt := hS.out.lb
      have hne : b ≠ wr.heap.size := by omega
      have S0 := hS.out.alloc (.cells #[.int .i64 (-1), .int .i64 (0)] 133)
      have k0 := S0.k0
      have k1 := S0.k1
      have ff := new_last (w := wr) rfl (.cells #[.int .i64 (-1), .int .i64 (0)] 133)
      go_wp2
      have k0d : ∀ v : Value, ((wr.alloc (.cells #[v, .int .i64 (0)] 133)).drew).cell? ⟨b, 1, none⟩ = some (.int .i64 cols) := fun v => (hS.out.alloc _).k1
      go_region
      all_goals go_wp2_with (go_at_call 100; go_loud (refine (putAt (k := 2) (ps := coords rows cols (3, 0, 0)) (((hS.out.alloc _).drew)) (by simp [coords]) rfl HI.out hpos _ _ (by refine Prod.ext ?_ ?_ <;> simp [coords] <;> omega)).mono ?_; rintro e w' ⟨rfl, hp⟩))
      all_goals exact ⟨⟨3, by omega, rfl, hp⟩, by simp [intOf]⟩
    · have ia : ∀ w, (Instr.index 134 (.agg #[.int .i64 (-3), .int .i64 (0), .int .i64 (-2), .int .i64 (0), .int .i64 (-1), .int .i64 (0), .int .i64 (0), .int .i64 (-2), .int .i64 (0), .int .i64 (-1), .int .i64 (1), .int .i64 (-1), .int .i64 (2), .int .i64 (-1), .int .i64 (3), .int .i64 (-1)]) (.int .i64 ((3 : Nat) : Int))).run Tryz.prog w = .ok (.agg #[.int .i64 (0), .int .i64 (-2)]) w := fun _ => by kernel_rfl
      have ib : ∀ w, (Instr.index 134 (.agg #[.int .i64 (-3), .int .i64 (0), .int .i64 (-2), .int .i64 (0), .int .i64 (-1), .int .i64 (0), .int .i64 (0), .int .i64 (-2), .int .i64 (0), .int .i64 (-1), .int .i64 (1), .int .i64 (-1), .int .i64 (2), .int .i64 (-1), .int .i64 (3), .int .i64 (-1)]) (.int .i64 (3 : Int))).run Tryz.prog w = .ok (.agg #[.int .i64 (0), .int .i64 (-2)]) w := fun _ => by kernel_rfl
      have hlt := hS.out.lb
      have hne : b ≠ wr.heap.size := by omega
      have S0 := hS.out.alloc (.cells #[.int .i64 (0), .int .i64 (-2)] 133)
      have k0 := S0.k0
      have k1 := S0.k1
      have ff := new_last (w := wr) rfl (.cells #[.int .i64 (0), .int .i64 (-2)] 133)
      go_wp2
      have k0d : ∀ v : Value, ((wr.alloc (.cells #[v, .int .i64 (-2)] 133)).drew).cell? ⟨b, 1, none⟩ = some (.int .i64 cols) := fun v => (hS.out.alloc _).k1
      go_region
      all_goals go_wp2_with (go_at_call 100; go_loud (refine (putAt (k := 3) (ps := coords rows cols (3, 0, 0)) (((hS.out.alloc _).drew)) (by simp [coords]) rfl HI.out hpos _ _ (by refine Prod.ext ?_ ?_ <;> simp [coords] <;> omega)).mono ?_; rintro e w' ⟨rfl, hp⟩))
      all_goals exact ⟨⟨4, by omega, rfl, hp⟩, by simp [intOf]⟩
    · have ia : ∀ w, (Instr.index 134 (.agg #[.int .i64 (-3), .int .i64 (0), .int .i64 (-2), .int .i64 (0), .int .i64 (-1), .int .i64 (0), .int .i64 (0), .int .i64 (-2), .int .i64 (0), .int .i64 (-1), .int .i64 (1), .int .i64 (-1), .int .i64 (2), .int .i64 (-1), .int .i64 (3), .int .i64 (-1)]) (.int .i64 ((4 : Nat) : Int))).run Tryz.prog w = .ok (.agg #[.int .i64 (0), .int .i64 (-1)]) w := fun _ => by kernel_rfl
      have ib : ∀ w, (Instr.index 134 (.agg #[.int .i64 (-3), .int .i64 (0), .int .i64 (-2), .int .i64 (0), .int .i64 (-1), .int .i64 (0), .int .i64 (0), .int .i64 (-2), .int .i64 (0), .int .i64 (-1), .int .i64 (1), .int .i64 (-1), .int .i64 (2), .int .i64 (-1), .int .i64 (3), .int .i64 (-1)]) (.int .i64 (4 : Int))).run Tryz.prog w = .ok (.agg #[.int .i64 (0), .int .i64 (-1)]) w := fun _ => by kernel_rfl
      have hlt := hS.out.lb
      have hne : b ≠ wr.heap.size := by omega
      have S0 := hS.out.alloc (.cells #[.int .i64 (0), .int .i64 (-1)] 133)
      have k0 := S0.k0
      have k1 := S0.k1
      have ff := new_last (w := wr) rfl (.cells #[.int .i64 (0), .int .i64 (-1)] 133)
      go_wp2
      have k0d : ∀ v : Value, ((wr.alloc (.cells #[v, .int .i64 (-1)] 133)).drew).cell? ⟨b, 1, none⟩ = some (.int .i64 cols) := fun v => (hS.out.alloc _).k1
      go_region
      all_goals go_wp2_with (go_at_call 100; go_loud (refine (putAt (k := 4) (ps := coords rows cols (3, 0, 0)) (((hS.out.alloc _).drew)) (by simp [coords]) rfl HI.out hpos _ _ (by refine Prod.ext ?_ ?_ <;> simp [coords] <;> omega)).mono ?_; rintro e w' ⟨rfl, hp⟩))
      all_goals exact ⟨⟨5, by omega, rfl, hp⟩, by simp [intOf]⟩
    · have ia : ∀ w, (Instr.index 134 (.agg #[.int .i64 (-3), .int .i64 (0), .int .i64 (-2), .int .i64 (0), .int .i64 (-1), .int .i64 (0), .int .i64 (0), .int .i64 (-2), .int .i64 (0), .int .i64 (-1), .int .i64 (1), .int .i64 (-1), .int .i64 (2), .int .i64 (-1), .int .i64 (3), .int .i64 (-1)]) (.int .i64 ((5 : Nat) : Int))).run Tryz.prog w = .ok (.agg #[.int .i64 (1), .int .i64 (-1)]) w := fun _ => by kernel_rfl
      have ib : ∀ w, (Instr.index 134 (.agg #[.int .i64 (-3), .int .i64 (0), .int .i64 (-2), .int .i64 (0), .int .i64 (-1), .int .i64 (0), .int .i64 (0), .int .i64 (-2), .int .i64 (0), .int .i64 (-1), .int .i64 (1), .int .i64 (-1), .int .i64 (2), .int .i64 (-1), .int .i64 (3), .int .i64 (-1)]) (.int .i64 (5 : Int))).run Tryz.prog w = .ok (.agg #[.int .i64 (1), .int .i64 (-1)]) w := fun _ => by kernel_rfl
      have hlt := hS.out.lb
      have hne : b ≠ wr.heap.size := by omega
      have S0 := hS.out.alloc (.cells #[.int .i64 (1), .int .i64 (-1)] 133)
      have k0 := S0.k0
      have k1 := S0.k1
      have ff := new_last (w := wr) rfl (.cells #[.int .i64 (1), .int .i64 (-1)] 133)
      go_wp2
      have k0d : ∀ v : Value, ((wr.alloc (.cells #[v, .int .i64 (-1)] 133)).drew).cell? ⟨b, 1, none⟩ = some (.int .i64 cols) := fun v => (hS.out.alloc _).k1
      go_region
      all_goals go_wp2_with (go_at_call 100; go_loud (refine (putAt (k := 5) (ps := coords rows cols (3, 0, 0)) (((hS.out.alloc _).drew)) (by simp [coords]) rfl HI.out hpos _ _ (by refine Prod.ext ?_ ?_ <;> simp [coords] <;> omega)).mono ?_; rintro e w' ⟨rfl, hp⟩))
      all_goals exact ⟨⟨6, by omega, rfl, hp⟩, by simp [intOf]⟩
    · have ia : ∀ w, (Instr.index 134 (.agg #[.int .i64 (-3), .int .i64 (0), .int .i64 (-2), .int .i64 (0), .int .i64 (-1), .int .i64 (0), .int .i64 (0), .int .i64 (-2), .int .i64 (0), .int .i64 (-1), .int .i64 (1), .int .i64 (-1), .int .i64 (2), .int .i64 (-1), .int .i64 (3), .int .i64 (-1)]) (.int .i64 ((6 : Nat) : Int))).run Tryz.prog w = .ok (.agg #[.int .i64 (2), .int .i64 (-1)]) w := fun _ => by kernel_rfl
      have ib : ∀ w, (Instr.index 134 (.agg #[.int .i64 (-3), .int .i64 (0), .int .i64 (-2), .int .i64 (0), .int .i64 (-1), .int .i64 (0), .int .i64 (0), .int .i64 (-2), .int .i64 (0), .int .i64 (-1), .int .i64 (1), .int .i64 (-1), .int .i64 (2), .int .i64 (-1), .int .i64 (3), .int .i64 (-1)]) (.int .i64 (6 : Int))).run Tryz.prog w = .ok (.agg #[.int .i64 (2), .int .i64 (-1)]) w := fun _ => by kernel_rfl
      have hlt := hS.out.lb
      have hne : b ≠ wr.heap.size := by omega
      have S0 := hS.out.alloc (.cells #[.int .i64 (2), .int .i64 (-1)] 133)
      have k0 := S0.k0
      have k1 := S0.k1
      have ff := new_last (w := wr) rfl (.cells #[.int .i64 (2), .int .i64 (-1)] 133)
      go_wp2
      have k0d : ∀ v : Value, ((wr.alloc (.cells #[v, .int .i64 (-1)] 133)).drew).cell? ⟨b, 1, none⟩ = some (.int .i64 cols) := fun v => (hS.out.alloc _).k1
      go_region
      all_goals go_wp2_with (go_at_call 100; go_loud (refine (putAt (k := 6) (ps := coords rows cols (3, 0, 0)) (((hS.out.alloc _).drew)) (by simp [coords]) rfl HI.out hpos _ _ (by refine Prod.ext ?_ ?_ <;> simp [coords] <;> omega)).mono ?_; rintro e w' ⟨rfl, hp⟩))
      all_goals exact ⟨⟨7, by omega, rfl, hp⟩, by simp [intOf]⟩
    · have ia : ∀ w, (Instr.index 134 (.agg #[.int .i64 (-3), .int .i64 (0), .int .i64 (-2), .int .i64 (0), .int .i64 (-1), .int .i64 (0), .int .i64 (0), .int .i64 (-2), .int .i64 (0), .int .i64 (-1), .int .i64 (1), .int .i64 (-1), .int .i64 (2), .int .i64 (-1), .int .i64 (3), .int .i64 (-1)]) (.int .i64 ((7 : Nat) : Int))).run Tryz.prog w = .ok (.agg #[.int .i64 (3), .int .i64 (-1)]) w := fun _ => by kernel_rfl
      have ib : ∀ w, (Instr.index 134 (.agg #[.int .i64 (-3), .int .i64 (0), .int .i64 (-2), .int .i64 (0), .int .i64 (-1), .int .i64 (0), .int .i64 (0), .int .i64 (-2), .int .i64 (0), .int .i64 (-1), .int .i64 (1), .int .i64 (-1), .int .i64 (2), .int .i64 (-1), .int .i64 (3), .int .i64 (-1)]) (.int .i64 (7 : Int))).run Tryz.prog w = .ok (.agg #[.int .i64 (3), .int .i64 (-1)]) w := fun _ => by kernel_rfl
      have hlt := hS.out.lb
      have hne : b ≠ wr.heap.size := by omega
      have S0 := hS.out.alloc (.cells #[.int .i64 (3), .int .i64 (-1)] 133)
      have k0 := S0.k0
      have k1 := S0.k1
      have ff := new_last (w := wr) rfl (.cells #[.int .i64 (3), .int .i64 (-1)] 133)
      go_wp2
      have k0d : ∀ v : Value, ((wr.alloc (.cells #[v, .int .i64 (-1)] 133)).drew).cell? ⟨b, 1, none⟩ = some (.int .i64 cols) := fun v => (hS.out.alloc _).k1
      go_region
      all_goals go_wp2_with (go_at_call 100; go_loud (refine (putAt (k := 7) (ps := coords rows cols (3, 0, 0)) (((hS.out.alloc _).drew)) (by simp [coords]) rfl HI.out hpos _ _ (by refine Prod.ext ?_ ?_ <;> simp [coords] <;> omega)).mono ?_; rintro e w' ⟨rfl, hp⟩))
      all_goals exact ⟨⟨8, by omega, rfl, hp⟩, by simp [intOf]⟩
    · go_wp2
      go_end0
      exact ⟨rfl, hS.out⟩

set_option maxRecDepth 100000 in
set_option maxHeartbeats 8000000 in
theorem shape4_calls {w0 w : World} {b bb rows cols : Nat} {bits : List Int} (h : SMem w0 w b bb rows cols bits) (pos : Nat) (hi : ∀ p ∈ coords rows cols (4, 0, 0), InR rows cols p) (hpos : pos ≤ 4000) :
    Calls Tryz.prog 99 #[.pointer (some ⟨b, 0, none⟩), .int .i64 pos, .agg #[.int .i64 (-1), .int .i64 (0), .int .i64 (-1), .int .i64 (-1), .int .i64 (0), .int .i64 (-3), .int .i64 (0), .int .i64 (-2), .int .i64 (0), .int .i64 (-1), .int .i64 (1), .int .i64 (-3), .int .i64 (1), .int .i64 (-2), .int .i64 (1), .int .i64 (-1)]] w (SSet w0 b bb rows cols (setLS rows cols pos 0 (coords rows cols (4, 0, 0)) bits)) := by
  have r0 := h.r0
  have r1 := h.r1
  have c0 := h.c0
  have c1 := h.c1
  have H := Lib.hid (h.alloc (.cells #[.int .i64 (-1), .int .i64 (0), .int .i64 (-1), .int .i64 (-1), .int .i64 (0), .int .i64 (-3), .int .i64 (0), .int .i64 (-2), .int .i64 (0), .int .i64 (-1), .int .i64 (1), .int .i64 (-3), .int .i64 (1), .int .i64 (-2), .int .i64 (1), .int .i64 (-1)] 134))
  have HI := Lib.hid hi
  clear h hi
  go_enter Tryz.func99, Tryz.ntmps99
  go_wp2
  go_loopw [9] (fun i wr => ∃ k : Nat, k ≤ 8 ∧ i = .int .i64 k ∧ Hid (SMem w0 wr b bb rows cols (setLS rows cols pos 0 ((coords rows cols (4, 0, 0)).take k) bits))) (fun i _ => 8 - (intOf i).toNat)
  case atStart => exact ⟨0, by omega, rfl, H.out⟩
  case round =>
    obtain ⟨k, hk, rfl, hS⟩ := hrel
    obtain rfl | rfl | rfl | rfl | rfl | rfl | rfl | rfl | rfl : k = 0 ∨ k = 1 ∨ k = 2 ∨ k = 3 ∨ k = 4 ∨ k = 5 ∨ k = 6 ∨ k = 7 ∨ k = 8 := by omega
    · have ia : ∀ w, (Instr.index 134 (.agg #[.int .i64 (-1), .int .i64 (0), .int .i64 (-1), .int .i64 (-1), .int .i64 (0), .int .i64 (-3), .int .i64 (0), .int .i64 (-2), .int .i64 (0), .int .i64 (-1), .int .i64 (1), .int .i64 (-3), .int .i64 (1), .int .i64 (-2), .int .i64 (1), .int .i64 (-1)]) (.int .i64 ((0 : Nat) : Int))).run Tryz.prog w = .ok (.agg #[.int .i64 (-1), .int .i64 (0)]) w := fun _ => by kernel_rfl
      have ib : ∀ w, (Instr.index 134 (.agg #[.int .i64 (-1), .int .i64 (0), .int .i64 (-1), .int .i64 (-1), .int .i64 (0), .int .i64 (-3), .int .i64 (0), .int .i64 (-2), .int .i64 (0), .int .i64 (-1), .int .i64 (1), .int .i64 (-3), .int .i64 (1), .int .i64 (-2), .int .i64 (1), .int .i64 (-1)]) (.int .i64 (0 : Int))).run Tryz.prog w = .ok (.agg #[.int .i64 (-1), .int .i64 (0)]) w := fun _ => by kernel_rfl
      have hlt := hS.out.lb
      have hne : b ≠ wr.heap.size := by omega
      have S0 := hS.out.alloc (.cells #[.int .i64 (-1), .int .i64 (0)] 133)
      have k0 := S0.k0
      have k1 := S0.k1
      have ff := new_last (w := wr) rfl (.cells #[.int .i64 (-1), .int .i64 (0)] 133)
      go_wp2
      have k0d : ∀ v : Value, ((wr.alloc (.cells #[v, .int .i64 (0)] 133)).drew).cell? ⟨b, 1, none⟩ = some (.int .i64 cols) := fun v => (hS.out.alloc _).k1
      go_region
      all_goals go_wp2_with (go_at_call 100; go_loud (refine (putAt (k := 0) (ps := coords rows cols (4, 0, 0)) (((hS.out.alloc _).drew)) (by simp [coords]) rfl HI.out hpos _ _ (by refine Prod.ext ?_ ?_ <;> simp [coords] <;> omega)).mono ?_; rintro e w' ⟨rfl, hp⟩))
      all_goals exact ⟨⟨1, by omega, rfl, hp⟩, by simp [intOf]⟩
    · have ia : ∀ w, (Instr.index 134 (.agg #[.int .i64 (-1), .int .i64 (0), .int .i64 (-1), .int .i64 (-1), .int .i64 (0), .int .i64 (-3), .int .i64 (0), .int .i64 (-2), .int .i64 (0), .int .i64 (-1), .int .i64 (1), .int .i64 (-3), .int .i64 (1), .int .i64 (-2), .int .i64 (1), .int .i64 (-1)]) (.int .i64 ((1 : Nat) : Int))).run Tryz.prog w = .ok (.agg #[.int .i64 (-1), .int .i64 (-1)]) w := fun _ => by kernel_rfl
      have ib : ∀ w, (Instr.index 134 (.agg #[.int .i64 (-1), .int .i64 (0), .int .i64 (-1), .int .i64 (-1), .int .i64 (0), .int .i64 (-3), .int .i64 (0), .int .i64 (-2), .int .i64 (0), .int .i64 (-1), .int .i64 (1), .int .i64 (-3), .int .i64 (1), .int .i64 (-2), .int .i64 (1), .int .i64 (-1)]) (.int .i64 (1 : Int))).run Tryz.prog w = .ok (.agg #[.int .i64 (-1), .int .i64 (-1)]) w := fun _ => by kernel_rfl
      have hlt := hS.out.lb
      have hne : b ≠ wr.heap.size := by omega
      have S0 := hS.out.alloc (.cells #[.int .i64 (-1), .int .i64 (-1)] 133)
      have k0 := S0.k0
      have k1 := S0.k1
      have ff := new_last (w := wr) rfl (.cells #[.int .i64 (-1), .int .i64 (-1)] 133)
      go_wp2
      have k0d : ∀ v : Value, ((wr.alloc (.cells #[v, .int .i64 (-1)] 133)).drew).cell? ⟨b, 1, none⟩ = some (.int .i64 cols) := fun v => (hS.out.alloc _).k1
      go_region
      all_goals go_wp2
      all_goals go_region
      all_goals go_wp2_with (go_at_call 100; go_loud (refine (putAt (k := 1) (ps := coords rows cols (4, 0, 0)) ((by first | exact (hS.out.alloc _).drew.drew | exact (hS.out.alloc _).drewN 2)) (by simp [coords]) rfl HI.out hpos _ _ (by refine Prod.ext ?_ ?_ <;> simp [coords] <;> omega)).mono ?_; rintro e w' ⟨rfl, hp⟩))
      all_goals exact ⟨⟨2, by omega, rfl, hp⟩, by simp [intOf]⟩
    · have ia : ∀ w, (Instr.index 134 (.agg #[.int .i64 (-1), .int .i64 (0), .int .i64 (-1), .int .i64 (-1), .int .i64 (0), .int .i64 (-3), .int .i64 (0), .int .i64 (-2), .int .i64 (0), .int .i64 (-1), .int .i64 (1), .int .i64 (-3), .int .i64 (1), .int .i64 (-2), .int .i64 (1), .int .i64 (-1)]) (.int .i64 ((2 : Nat) : Int))).run Tryz.prog w = .ok (.agg #[.int .i64 (0), .int .i64 (-3)]) w := fun _ => by kernel_rfl
      have ib : ∀ w, (Instr.index 134 (.agg #[.int .i64 (-1), .int .i64 (0), .int .i64 (-1), .int .i64 (-1), .int .i64 (0), .int .i64 (-3), .int .i64 (0), .int .i64 (-2), .int .i64 (0), .int .i64 (-1), .int .i64 (1), .int .i64 (-3), .int .i64 (1), .int .i64 (-2), .int .i64 (1), .int .i64 (-1)]) (.int .i64 (2 : Int))).run Tryz.prog w = .ok (.agg #[.int .i64 (0), .int .i64 (-3)]) w := fun _ => by kernel_rfl
      have hlt := hS.out.lb
      have hne : b ≠ wr.heap.size := by omega
      have S0 := hS.out.alloc (.cells #[.int .i64 (0), .int .i64 (-3)] 133)
      have k0 := S0.k0
      have k1 := S0.k1
      have ff := new_last (w := wr) rfl (.cells #[.int .i64 (0), .int .i64 (-3)] 133)
      go_wp2
      have k0d : ∀ v : Value, ((wr.alloc (.cells #[v, .int .i64 (-3)] 133)).drew).cell? ⟨b, 1, none⟩ = some (.int .i64 cols) := fun v => (hS.out.alloc _).k1
      go_region
      all_goals go_wp2_with (go_at_call 100; go_loud (refine (putAt (k := 2) (ps := coords rows cols (4, 0, 0)) (((hS.out.alloc _).drew)) (by simp [coords]) rfl HI.out hpos _ _ (by refine Prod.ext ?_ ?_ <;> simp [coords] <;> omega)).mono ?_; rintro e w' ⟨rfl, hp⟩))
      all_goals exact ⟨⟨3, by omega, rfl, hp⟩, by simp [intOf]⟩
    · have ia : ∀ w, (Instr.index 134 (.agg #[.int .i64 (-1), .int .i64 (0), .int .i64 (-1), .int .i64 (-1), .int .i64 (0), .int .i64 (-3), .int .i64 (0), .int .i64 (-2), .int .i64 (0), .int .i64 (-1), .int .i64 (1), .int .i64 (-3), .int .i64 (1), .int .i64 (-2), .int .i64 (1), .int .i64 (-1)]) (.int .i64 ((3 : Nat) : Int))).run Tryz.prog w = .ok (.agg #[.int .i64 (0), .int .i64 (-2)]) w := fun _ => by kernel_rfl
      have ib : ∀ w, (Instr.index 134 (.agg #[.int .i64 (-1), .int .i64 (0), .int .i64 (-1), .int .i64 (-1), .int .i64 (0), .int .i64 (-3), .int .i64 (0), .int .i64 (-2), .int .i64 (0), .int .i64 (-1), .int .i64 (1), .int .i64 (-3), .int .i64 (1), .int .i64 (-2), .int .i64 (1), .int .i64 (-1)]) (.int .i64 (3 : Int))).run Tryz.prog w = .ok (.agg #[.int .i64 (0), .int .i64 (-2)]) w := fun _ => by kernel_rfl
      have hlt := hS.out.lb
      have hne : b ≠ wr.heap.size := by omega
      have S0 := hS.out.alloc (.cells #[.int .i64 (0), .int .i64 (-2)] 133)
      have k0 := S0.k0
      have k1 := S0.k1
      have ff := new_last (w := wr) rfl (.cells #[.int .i64 (0), .int .i64 (-2)] 133)
      go_wp2
      have k0d : ∀ v : Value, ((wr.alloc (.cells #[v, .int .i64 (-2)] 133)).drew).cell? ⟨b, 1, none⟩ = some (.int .i64 cols) := fun v => (hS.out.alloc _).k1
      go_region
      all_goals go_wp2_with (go_at_call 100; go_loud (refine (putAt (k := 3) (ps := coords rows cols (4, 0, 0)) (((hS.out.alloc _).drew)) (by simp [coords]) rfl HI.out hpos _ _ (by refine Prod.ext ?_ ?_ <;> simp [coords] <;> omega)).mono ?_; rintro e w' ⟨rfl, hp⟩))
      all_goals exact ⟨⟨4, by omega, rfl, hp⟩, by simp [intOf]⟩
    · have ia : ∀ w, (Instr.index 134 (.agg #[.int .i64 (-1), .int .i64 (0), .int .i64 (-1), .int .i64 (-1), .int .i64 (0), .int .i64 (-3), .int .i64 (0), .int .i64 (-2), .int .i64 (0), .int .i64 (-1), .int .i64 (1), .int .i64 (-3), .int .i64 (1), .int .i64 (-2), .int .i64 (1), .int .i64 (-1)]) (.int .i64 ((4 : Nat) : Int))).run Tryz.prog w = .ok (.agg #[.int .i64 (0), .int .i64 (-1)]) w := fun _ => by kernel_rfl
      have ib : ∀ w, (Instr.index 134 (.agg #[.int .i64 (-1), .int .i64 (0), .int .i64 (-1), .int .i64 (-1), .int .i64 (0), .int .i64 (-3), .int .i64 (0), .int .i64 (-2), .int .i64 (0), .int .i64 (-1), .int .i64 (1), .int .i64 (-3), .int .i64 (1), .int .i64 (-2), .int .i64 (1), .int .i64 (-1)]) (.int .i64 (4 : Int))).run Tryz.prog w = .ok (.agg #[.int .i64 (0), .int .i64 (-1)]) w := fun _ => by kernel_rfl
      have hlt := hS.out.lb
      have hne : b ≠ wr.heap.size := by omega
      have S0 := hS.out.alloc (.cells #[.int .i64 (0), .int .i64 (-1)] 133)
      have k0 := S0.k0
      have k1 := S0.k1
      have ff := new_last (w := wr) rfl (.cells #[.int .i64 (0), .int .i64 (-1)] 133)
      go_wp2
      have k0d : ∀ v : Value, ((wr.alloc (.cells #[v, .int .i64 (-1)] 133)).drew).cell? ⟨b, 1, none⟩ = some (.int .i64 cols) := fun v => (hS.out.alloc _).k1
      go_region
      all_goals go_wp2_with (go_at_call 100; go_loud (refine (putAt (k := 4) (ps := coords rows cols (4, 0, 0)) (((hS.out.alloc _).drew)) (by simp [coords]) rfl HI.out hpos _ _ (by refine Prod.ext ?_ ?_ <;> simp [coords] <;> omega)).mono ?_; rintro e w' ⟨rfl, hp⟩))
      all_goals exact ⟨⟨5, by omega, rfl, hp⟩, by simp [intOf]⟩
    · have ia : ∀ w, (Instr.index 134 (.agg #[.int .i64 (-1), .int .i64 (0), .int .i64 (-1), .int .i64 (-1), .int .i64 (0), .int .i64 (-3), .int .i64 (0), .int .i64 (-2), .int .i64 (0), .int .i64 (-1), .int .i64 (1), .int .i64 (-3), .int .i64 (1), .int .i64 (-2), .int .i64 (1), .int .i64 (-1)]) (.int .i64 ((5 : Nat) : Int))).run Tryz.prog w = .ok (.agg #[.int .i64 (1), .int .i64 (-3)]) w := fun _ => by kernel_rfl
      have ib : ∀ w, (Instr.index 134 (.agg #[.int .i64 (-1), .int .i64 (0), .int .i64 (-1), .int .i64 (-1), .int .i64 (0), .int .i64 (-3), .int .i64 (0), .int .i64 (-2), .int .i64 (0), .int .i64 (-1), .int .i64 (1), .int .i64 (-3), .int .i64 (1), .int .i64 (-2), .int .i64 (1), .int .i64 (-1)]) (.int .i64 (5 : Int))).run Tryz.prog w = .ok (.agg #[.int .i64 (1), .int .i64 (-3)]) w := fun _ => by kernel_rfl
      have hlt := hS.out.lb
      have hne : b ≠ wr.heap.size := by omega
      have S0 := hS.out.alloc (.cells #[.int .i64 (1), .int .i64 (-3)] 133)
      have k0 := S0.k0
      have k1 := S0.k1
      have ff := new_last (w := wr) rfl (.cells #[.int .i64 (1), .int .i64 (-3)] 133)
      go_wp2
      have k0d : ∀ v : Value, ((wr.alloc (.cells #[v, .int .i64 (-3)] 133)).drew).cell? ⟨b, 1, none⟩ = some (.int .i64 cols) := fun v => (hS.out.alloc _).k1
      go_region
      all_goals go_wp2_with (go_at_call 100; go_loud (refine (putAt (k := 5) (ps := coords rows cols (4, 0, 0)) (((hS.out.alloc _).drew)) (by simp [coords]) rfl HI.out hpos _ _ (by refine Prod.ext ?_ ?_ <;> simp [coords] <;> omega)).mono ?_; rintro e w' ⟨rfl, hp⟩))
      all_goals exact ⟨⟨6, by omega, rfl, hp⟩, by simp [intOf]⟩
    · have ia : ∀ w, (Instr.index 134 (.agg #[.int .i64 (-1), .int .i64 (0), .int .i64 (-1), .int .i64 (-1), .int .i64 (0), .int .i64 (-3), .int .i64 (0), .int .i64 (-2), .int .i64 (0), .int .i64 (-1), .int .i64 (1), .int .i64 (-3), .int .i64 (1), .int .i64 (-2), .int .i64 (1), .int .i64 (-1)]) (.int .i64 ((6 : Nat) : Int))).run Tryz.prog w = .ok (.agg #[.int .i64 (1), .int .i64 (-2)]) w := fun _ => by kernel_rfl
      have ib : ∀ w, (Instr.index 134 (.agg #[.int .i64 (-1), .int .i64 (0), .int .i64 (-1), .int .i64 (-1), .int .i64 (0), .int .i64 (-3), .int .i64 (0), .int .i64 (-2), .int .i64 (0), .int .i64 (-1), .int .i64 (1), .int .i64 (-3), .int .i64 (1), .int .i64 (-2), .int .i64 (1), .int .i64 (-1)]) (.int .i64 (6 : Int))).run Tryz.prog w = .ok (.agg #[.int .i64 (1), .int .i64 (-2)]) w := fun _ => by kernel_rfl
      have hlt := hS.out.lb
      have hne : b ≠ wr.heap.size := by omega
      have S0 := hS.out.alloc (.cells #[.int .i64 (1), .int .i64 (-2)] 133)
      have k0 := S0.k0
      have k1 := S0.k1
      have ff := new_last (w := wr) rfl (.cells #[.int .i64 (1), .int .i64 (-2)] 133)
      go_wp2
      have k0d : ∀ v : Value, ((wr.alloc (.cells #[v, .int .i64 (-2)] 133)).drew).cell? ⟨b, 1, none⟩ = some (.int .i64 cols) := fun v => (hS.out.alloc _).k1
      go_region
      all_goals go_wp2_with (go_at_call 100; go_loud (refine (putAt (k := 6) (ps := coords rows cols (4, 0, 0)) (((hS.out.alloc _).drew)) (by simp [coords]) rfl HI.out hpos _ _ (by refine Prod.ext ?_ ?_ <;> simp [coords] <;> omega)).mono ?_; rintro e w' ⟨rfl, hp⟩))
      all_goals exact ⟨⟨7, by omega, rfl, hp⟩, by simp [intOf]⟩
    · have ia : ∀ w, (Instr.index 134 (.agg #[.int .i64 (-1), .int .i64 (0), .int .i64 (-1), .int .i64 (-1), .int .i64 (0), .int .i64 (-3), .int .i64 (0), .int .i64 (-2), .int .i64 (0), .int .i64 (-1), .int .i64 (1), .int .i64 (-3), .int .i64 (1), .int .i64 (-2), .int .i64 (1), .int .i64 (-1)]) (.int .i64 ((7 : Nat) : Int))).run Tryz.prog w = .ok (.agg #[.int .i64 (1), .int .i64 (-1)]) w := fun _ => by kernel_rfl
      have ib : ∀ w, (Instr.index 134 (.agg #[.int .i64 (-1), .int .i64 (0), .int .i64 (-1), .int .i64 (-1), .int .i64 (0), .int .i64 (-3), .int .i64 (0), .int .i64 (-2), .int .i64 (0), .int .i64 (-1), .int .i64 (1), .int .i64 (-3), .int .i64 (1), .int .i64 (-2), .int .i64 (1), .int .i64 (-1)]) (.int .i64 (7 : Int))).run Tryz.prog w = .ok (.agg #[.int .i64 (1), .int .i64 (-1)]) w := fun _ => by kernel_rfl
      have hlt := hS.out.lb
      have hne : b ≠ wr.heap.size := by omega
      have S0 := hS.out.alloc (.cells #[.int .i64 (1), .int .i64 (-1)] 133)
      have k0 := S0.k0
      have k1 := S0.k1
      have ff := new_last (w := wr) rfl (.cells #[.int .i64 (1), .int .i64 (-1)] 133)
      go_wp2
      have k0d : ∀ v : Value, ((wr.alloc (.cells #[v, .int .i64 (-1)] 133)).drew).cell? ⟨b, 1, none⟩ = some (.int .i64 cols) := fun v => (hS.out.alloc _).k1
      go_region
      all_goals go_wp2_with (go_at_call 100; go_loud (refine (putAt (k := 7) (ps := coords rows cols (4, 0, 0)) (((hS.out.alloc _).drew)) (by simp [coords]) rfl HI.out hpos _ _ (by refine Prod.ext ?_ ?_ <;> simp [coords] <;> omega)).mono ?_; rintro e w' ⟨rfl, hp⟩))
      all_goals exact ⟨⟨8, by omega, rfl, hp⟩, by simp [intOf]⟩
    · go_wp2
      go_end0
      exact ⟨rfl, hS.out⟩

end Go.Proofs.YtcnallabiffemaaGreatDoor

/- The reference's corners. -/
set_option linter.unusedVariables false
set_option linter.unusedSimpArgs false
namespace Go.Proofs.YtcnallabiffemaaGreatDoor
open Go.RowKit

def CornS (w0 : World) (b bb rows cols pos : Nat) (row col : Int) (bits : List Int) (e : Ending) (w' : World) : Prop :=
  e = .returned (.bool (decide (cornerOf rows cols row col ≠ 0))) ∧ SMem w0 w' b bb rows cols (if cornerOf rows cols row col = 0 then bits else setLS rows cols pos 0 (coords rows cols (cornerOf rows cols row col, 0, 0)) bits)
theorem corner_0 {rows cols : Nat} {row col : Int} (h1 : ¬ (row = rows ∧ col = 0)) (h2 : ¬ (row = (rows : Int) - 2 ∧ col = 0 ∧ ¬ (cols : Int) % 4 = 0)) (h3 : ¬ (row = (rows : Int) - 2 ∧ col = 0 ∧ (cols : Int) % 8 = 4)) (h4 : ¬ (row = (rows : Int) + 4 ∧ col = 2 ∧ (cols : Int) % 8 = 0)) : cornerOf rows cols row col = 0 := by
  unfold cornerOf; rw [if_neg h1, if_neg h2, if_neg h3, if_neg h4]

set_option maxRecDepth 100000 in
set_option maxHeartbeats 8000000 in
theorem cornersS_calls {w0 w : World} {b bb rows cols : Nat} {bits : List Int} (h : SMem w0 w b bb rows cols bits) (row col : Int) (pos : Nat) (hr0 : -200 ≤ row) (hr1 : row ≤ 2000)
    (hi : cornerOf rows cols row col ≠ 0 → ∀ p ∈ coords rows cols (cornerOf rows cols row col, 0, 0), InR rows cols p) (hpos : pos ≤ 4000) :
    Calls Tryz.prog 49 #[.pointer (some ⟨b, 0, none⟩), .int .i64 row, .int .i64 col, .int .i64 pos] w (CornS w0 b bb rows cols pos row col bits) := by
  have r0 := h.r0
  have r1 := h.r1
  have c0 := h.c0
  have c1 := h.c1
  have k0 := h.k0
  have k1 := h.k1
  have H := Lib.hid h
  unfold CornS
  clear h
  by_cases q1 : row = (rows : Int) ∧ col = 0
  · have e := (corner_1 (cols := cols)).2 q1
    rw [e] at hi ⊢
    have HI := Lib.hid (hi (by omega))
    obtain ⟨rfl, rfl⟩ := q1
    clear hi e
    go_enter Tryz.func49, Tryz.ntmps49
    go_wp2_with (go_at_call 99; go_loud (refine (shape1_calls H.out pos HI.out hpos).mono ?_; rintro e w' ⟨rfl, hp⟩))
    go_ret
    exact ⟨rfl, hp⟩
  · by_cases q3 : row = (rows : Int) - 2 ∧ col = 0 ∧ (cols : Int) % 8 = 4
    · have e := corner_3.2 q3
      rw [e] at hi ⊢
      have HI := Lib.hid (hi (by omega))
      obtain ⟨rfl, rfl, q3⟩ := q3
      have t0 : ((rows : Int) - 2 == (rows : Int)) = false := by rw [beq_eq_false_iff_ne]; omega
      clear hi e q1
      go_enter Tryz.func49, Tryz.ntmps49
      go_wp2_with (go_at_call 99; go_loud (refine (shape3_calls H.out pos HI.out hpos).mono ?_; rintro e w' ⟨rfl, hp⟩))
      go_ret
      exact ⟨rfl, hp⟩
    · by_cases q2 : row = (rows : Int) - 2 ∧ col = 0 ∧ ¬ (cols : Int) % 4 = 0
      · have e := corner_2.2 q2
        rw [e] at hi ⊢
        have HI := Lib.hid (hi (by omega))
        obtain ⟨rfl, rfl, q2⟩ := q2
        have t0 : ((rows : Int) - 2 == (rows : Int)) = false := by rw [beq_eq_false_iff_ne]; omega
        have t1 : ((cols : Int) % 8 == 4) = false := by rw [beq_eq_false_iff_ne]; omega
        have t2 : ((cols : Int) % 4 != 0) = true := by rw [bne_iff_ne]; omega
        clear hi e q1 q2 q3
        go_enter Tryz.func49, Tryz.ntmps49
        go_wp2_with (go_at_call 99; go_loud (refine (shape2_calls H.out pos HI.out hpos).mono ?_; rintro e w' ⟨rfl, hp⟩))
        go_ret
        exact ⟨rfl, hp⟩
      · by_cases q4 : row = (rows : Int) + 4 ∧ col = 2 ∧ (cols : Int) % 8 = 0
        · have e := corner_4.2 q4
          rw [e] at hi ⊢
          have HI := Lib.hid (hi (by omega))
          obtain ⟨rfl, rfl, q4⟩ := q4
          have t0 : ((rows : Int) + 4 == (rows : Int)) = false := by rw [beq_eq_false_iff_ne]; omega
          have t1 : ((rows : Int) + 4 == (rows : Int) - 2) = false := by rw [beq_eq_false_iff_ne]; omega
          have t2 : ((cols : Int) % 8 == 0) = true := by rw [beq_iff_eq]; omega
          clear hi e q1 q2 q3 q4
          go_enter Tryz.func49, Tryz.ntmps49
          go_wp2_with (go_at_call 99; go_loud (refine (shape4_calls H.out pos HI.out hpos).mono ?_; rintro e w' ⟨rfl, hp⟩))
          go_ret
          exact ⟨rfl, hp⟩
        · rw [corner_0 q1 q2 q3 q4]
          clear hi
          by_cases p1 : row = (rows : Int)
          · have t0 : (row == (rows : Int)) = true := by rw [beq_iff_eq]; omega
            have t1 : (col == 0) = false := by rw [beq_eq_false_iff_ne]; omega
            have t2 : (row == (rows : Int) - 2) = false := by rw [beq_eq_false_iff_ne]; omega
            have t3 : (row == (rows : Int) + 4) = false := by rw [beq_eq_false_iff_ne]; omega
            clear p1 q1 q2 q3 q4
            go_enter Tryz.func49, Tryz.ntmps49
            go_wp2
            go_ret
            exact ⟨rfl, H.out⟩
          · have t0 : (row == (rows : Int)) = false := by rw [beq_eq_false_iff_ne]; omega
            by_cases p2 : row = (rows : Int) - 2
            · have t2 : (row == (rows : Int) - 2) = true := by rw [beq_iff_eq]; omega
              have t3 : (row == (rows : Int) + 4) = false := by rw [beq_eq_false_iff_ne]; omega
              by_cases p3 : col = 0
              · have t1 : (col == 0) = true := by rw [beq_iff_eq]; omega
                have t4 : ((cols : Int) % 8 == 4) = false := by rw [beq_eq_false_iff_ne]; omega
                have t5 : ((cols : Int) % 4 != 0) = false := by rw [bne_eq_false_iff_eq]; omega
                clear p1 q1 q2 q3 q4 p2 p3
                go_enter Tryz.func49, Tryz.ntmps49
                go_wp2
                go_ret
                exact ⟨rfl, H.out⟩
              · have t1 : (col == 0) = false := by rw [beq_eq_false_iff_ne]; omega
                clear p1 q1 q2 q3 q4 p2 p3
                go_enter Tryz.func49, Tryz.ntmps49
                go_wp2
                go_ret
                exact ⟨rfl, H.out⟩
            · have t2 : (row == (rows : Int) - 2) = false := by rw [beq_eq_false_iff_ne]; omega
              by_cases p4 : row = (rows : Int) + 4
              · have t3 : (row == (rows : Int) + 4) = true := by rw [beq_iff_eq]; omega
                by_cases p5 : col = 2
                · have t1 : (col == 2) = true := by rw [beq_iff_eq]; omega
                  have t4 : ((cols : Int) % 8 == 0) = false := by rw [beq_eq_false_iff_ne]; omega
                  clear p1 q1 q2 q3 q4 p2 p4 p5
                  go_enter Tryz.func49, Tryz.ntmps49
                  go_wp2
                  go_ret
                  exact ⟨rfl, H.out⟩
                · have t1 : (col == 2) = false := by rw [beq_eq_false_iff_ne]; omega
                  clear p1 q1 q2 q3 q4 p2 p4 p5
                  go_enter Tryz.func49, Tryz.ntmps49
                  go_wp2
                  go_ret
                  exact ⟨rfl, H.out⟩
              · have t3 : (row == (rows : Int) + 4) = false := by rw [beq_eq_false_iff_ne]; omega
                clear p1 q1 q2 q3 q4 p2 p4
                go_enter Tryz.func49, Tryz.ntmps49
                go_wp2
                go_ret
                exact ⟨rfl, H.out⟩
end Go.Proofs.YtcnallabiffemaaGreatDoor
