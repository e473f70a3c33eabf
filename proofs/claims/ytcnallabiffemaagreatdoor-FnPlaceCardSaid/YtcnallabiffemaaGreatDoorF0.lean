/- The matrix of bytes that the writer fills. -/
import Derived.Test.YtcnallabiffemaaGreatDoorE2
set_option linter.unusedVariables false
set_option linter.unusedSimpArgs false
namespace Go.Proofs.YtcnallabiffemaaGreatDoor
open Go.RowKit

def rowsArr (B W H i : Nat) : Array Value := ((List.range H).map fun j => if j < i then Value.slice (some ⟨B + 1 + j, 0, none⟩) W W else .slice none 0 0).toArray
theorem rowsArr_get (B W H i j : Nat) (h : j < H) : (rowsArr B W H i)[j]? = some (if j < i then Value.slice (some ⟨B + 1 + j, 0, none⟩) W W else .slice none 0 0) := by
  simp [rowsArr, h]
theorem rowsArr_set (B W H i : Nat) (h : i < H) : (rowsArr B W H i).setIfInBounds i (.slice (some ⟨B + 1 + i, 0, none⟩) W W) = rowsArr B W H (i + 1) := by
  apply Array.ext
  · simp [rowsArr]
  · intro j h1 h2
    have hj : j < H := by simpa [rowsArr] using h2
    simp only [rowsArr, List.setIfInBounds_toArray, List.getElem_toArray, List.getElem_set, List.getElem_map, List.getElem_range]
    by_cases e : i = j
    · subst e; simp
    · by_cases e2 : j < i
      · rw [if_neg e, if_pos e2, if_pos (by omega)]
      · rw [if_neg e, if_neg e2, if_neg (by omega)]

theorem make175 (c : Int) (h1 : 0 ≤ c) (h2 : c ≤ 1000000) (B W : Nat) (w : World) :
    (Instr.makeSlice 175 (.int .i64 c) (.int .i64 c)).run Tryz.prog w = .ok (.slice (some ⟨w.heap.size, 0, none⟩) c.toNat c.toNat) (w.alloc (.cells (rowsArr B W c.toNat 0) 136)) := by
  obtain ⟨i, h, hz, hs, hb⟩ := info_parts Tryz.inf136
  have hb8 : (i.bytes : Int) ≤ 24 := by omega
  have : (i.bytes : Int) * c ≤ 24 * 1000000 := Int.mul_le_mul hb8 h2 (by omega) (by omega)
  rw [run_make w 175 136 i _ Tryz.underlying175 h hz .i64 .i64 c c h1 (Int.le_refl _) (by omega) (by omega), hs, Nat.mul_one]
  have : madeCells (Value.slice none 0 0).cells c.toNat = rowsArr B W c.toNat 0 := by
    apply Array.toList_inj.1
    rw [show (Value.slice none 0 0).cells = #[Value.slice none 0 0] from rfl, toList_madeCells_one]
    simp [rowsArr, List.map_const']
  rw [this]

/-- a matrix of bytes: its rows lie behind its head's block -/
structure BMat (w : World) (B W H : Nat) (M : Nat → List Int) : Prop where
  hdr : w.heap[B + 1 + H]? = some (.cells #[.slice (some ⟨B, 0, none⟩) H H, .int .i64 W, .int .i64 H] 177)
  ptr : w.heap[B]? = some (.cells (rowsArr B W H H) 136)
  row : ∀ y, y < H → Row w (B + 1 + y) .i8 139 (M y)
  len : ∀ y, y < H → (M y).length = W

theorem BMat.below {w w' : World} {B W H : Nat} {M : Nat → List Int} (h : BMat w B W H M) {B' : Nat} (hb : Below B' w w') (hB : B + 1 + H < B') : BMat w' B W H M :=
  ⟨(hb.block _ hB).trans h.hdr, (hb.block _ (by omega)).trans h.ptr, fun y hy => (h.row y hy).below hb (by omega), h.len⟩
theorem BMat.drewN {w : World} {B W H : Nat} {M : Nat → List Int} (h : BMat w B W H M) (n : Nat) : BMat (w.drewN n) B W H M := ⟨h.hdr, h.ptr, h.row, h.len⟩

def NewPost (W H : Nat) (w : World) (e : Ending) (w' : World) : Prop :=
  e = .returned (.pointer (some ⟨w.heap.size + 1 + H, 0, none⟩)) ∧ BMat w' w.heap.size W H (fun _ => zs W) ∧ Below w.heap.size w w' ∧ w.heap.size + H + 2 ≤ w'.heap.size

theorem new_step {w wr : World} {W H k : Nat} (hlt : k < H) (hz : wr.heap.size = w.heap.size + 1 + k) (h1 : wr.heap[w.heap.size]? = some (.cells (rowsArr w.heap.size W H k) 136))
    (h2 : ∀ y, y < k → Row wr (w.heap.size + 1 + y) .i8 139 (zs W)) (h3 : Below w.heap.size w wr) (wx : World)
    (hx : wx = (wr.setCell ⟨w.heap.size, k, none⟩ (.slice (some ⟨wr.heap.size, 0, none⟩) W W)).alloc (.cells (irow .i8 (zs W)) 139)) :
    wx.heap.size = w.heap.size + 1 + (k + 1) ∧ wx.heap[w.heap.size]? = some (.cells (rowsArr w.heap.size W H (k + 1)) 136) ∧ (∀ y, y < k + 1 → Row wx (w.heap.size + 1 + y) .i8 139 (zs W)) ∧ Below w.heap.size w wx := by
  subst hx
  have hs : (wr.setCell ⟨w.heap.size, k, none⟩ (.slice (some ⟨wr.heap.size, 0, none⟩) W W)).heap.size = wr.heap.size := by simp [World.setCell]
  refine ⟨by rw [alloc_heap, Array.size_push, hs]; omega, ?_, fun y hy => ?_, ?_⟩
  · rw [Below.heap_alloc _ _ _ (by omega), heap_setCell_at h1, hz, rowsArr_set _ _ _ _ hlt]
  · rcases Nat.lt_succ_iff_lt_or_eq.1 hy with h | rfl
    · exact ((h2 y h).set_ne (by simp; omega) _).alloc _
    · have := Row.new (wr.setCell ⟨w.heap.size, y, none⟩ (.slice (some ⟨wr.heap.size, 0, none⟩) W W)) .i8 139 (zs W)
      rw [hs, hz] at this
      rw [hz]; exact this
  · exact (h3.setCell (by simp) _).alloc (by omega) _

set_option maxRecDepth 100000 in
set_option maxHeartbeats 4000000 in
theorem newBM_calls (W H : Nat) (hW : W ≤ 1000) (hH : H ≤ 1000) (w : World) :
    Calls Tryz.prog 115 #[.int .i64 W, .int .i64 H] w (NewPost W H w) := by
  have hm := make175 (H : Int) (by omega) (by omega) w.heap.size W
  have hm2 := make136 (W : Int) (by omega) (by omega)
  rw [Int.toNat_natCast] at hm hm2
  go_enter Tryz.func115, Tryz.ntmps115
  go_wp2
  go_loopw [6] (fun i wr => ∃ k : Nat, k ≤ H ∧ i = .int .i64 k ∧ wr.heap.size = w.heap.size + 1 + k ∧ Hid (wr.heap[w.heap.size]? = some (.cells (rowsArr w.heap.size W H k) 136)) ∧ Hid (∀ y, y < k → Row wr (w.heap.size + 1 + y) .i8 139 (zs W)) ∧ Hid (Below w.heap.size w wr)) (fun i _ => H - (intOf i).toNat)
  case atStart =>
    refine ⟨0, by omega, rfl, by simp, ?_, fun y hy => by omega, (Below.refl _ _).alloc (Nat.le_refl _) _⟩
    rw [alloc_heap]; simp [Hid]
  case round =>
    obtain ⟨k, hk, rfl, hz, h1, h2, h3⟩ := hrel
    have HZ := Lib.hid hz
    clear hz
    by_cases hlt : k < H
    · have c1 := (cell_blk h1.out k).trans (rowsArr_get _ _ _ _ _ hlt)
      have f1 := frozen_blk h1.out k
      rw [if_neg (Nat.lt_irrefl k)] at c1
      have hsz : w.heap.size < wr.heap.size := by have := HZ.out; omega
      go_wp2
      obtain ⟨a1, a2, a3, a4⟩ := new_step hlt HZ.out h1.out h2.out h3.out _ rfl
      exact ⟨⟨k + 1, by omega, by go_num, a1, a2, a3, a4⟩, by simp [intOf]; omega⟩
    · obtain rfl : k = H := by omega
      go_wp2
      go_ret
      have hz := HZ.out
      refine ⟨by rw [hz]; rfl, ⟨?_, ?_, fun y hy => (h2.out y hy).alloc _, fun _ _ => by simp⟩, h3.out.alloc (by omega) _, by rw [alloc_heap, Array.size_push]; omega⟩
      · rw [alloc_heap, ← hz]; simp
      · rw [Below.heap_alloc _ _ _ (by omega)]; exact h1.out
end Go.Proofs.YtcnallabiffemaaGreatDoor
