/- A new placement: every module is still free. -/
import Derived.Test.YtcnallabiffemaaGreatDoorE5
import Derived.Test.YtcnallabiffemaaGreatDoorF5
set_option linter.unusedVariables false
set_option linter.unusedSimpArgs false
namespace Go.Proofs.YtcnallabiffemaaGreatDoor
open Go.RowKit

def upTo (n k : Nat) : List Int := List.replicate k (-1) ++ List.replicate (n - k) 0
theorem upTo_zero (n : Nat) : upTo n 0 = zs n := by simp [upTo, zs]
theorem upTo_full (n : Nat) : upTo n n = List.replicate n (-1) := by simp [upTo]
theorem upTo_len {n k : Nat} (h : k ≤ n) : (upTo n k).length = n := by simp [upTo]; omega
theorem upTo_set {n k : Nat} (h : k < n) : (upTo n k).set k (-1) = upTo n (k + 1) := by
  unfold upTo
  rw [List.set_append_right _ _ (by simp)]
  obtain ⟨m, hm⟩ : ∃ m, n - k = m + 1 := ⟨n - k - 1, by omega⟩
  rw [hm, show n - (k + 1) = m by omega]
  rw [List.replicate_succ' (n := k), List.append_assoc]
  simp [List.replicate_succ]

def NewPPost (cb cap rows cols : Nat) (cw : List Nat) (w : World) (e : Ending) (w' : World) : Prop :=
  e = .returned (.pointer (some ⟨w.heap.size + 1, 0, none⟩)) ∧ PMem w w' (w.heap.size + 1) w.heap.size cb cap rows cols cw (foldE rows cols cw []) ∧ w.heap.size + 2 ≤ w'.heap.size

set_option maxRecDepth 100000 in
set_option maxHeartbeats 4000000 in
theorem newP_calls {w : World} {cb cap rows cols : Nat} {cw : List Nat} (hcw : Bytes w cb cw) (r0 : 6 ≤ rows) (r1 : rows ≤ 1000) (c0 : 6 ≤ cols) (c1 : cols ≤ 1000) :
    Calls Tryz.prog 54 #[.slice (some ⟨cb, 0, none⟩) cw.length cap, .int .i64 cols, .int .i64 rows] w (NewPPost cb cap rows cols cw w) := by
  have hb0 : rows * cols ≤ 1000 * 1000 := Nat.mul_le_mul r1 c1
  have hb1 : ((rows * cols : Nat) : Int) = (cols : Int) * (rows : Int) := by rw [Nat.mul_comm]; simp
  obtain ⟨n, hn⟩ : ∃ n, n = rows * cols := ⟨_, rfl⟩
  rw [← hn] at hb0 hb1
  have hb2 : (cols : Int) * (rows : Int) = (n : Int) := hb1.symm
  have hm := make136 (n : Int) (by omega) (by omega)
  rw [Int.toNat_natCast] at hm
  have HN := Lib.hid hn
  have HC := Lib.hid hcw
  clear hb1 hn hcw
  go_enter Tryz.func54, Tryz.ntmps54
  go_wp2
  go_loopw [23] (fun i wr => ∃ k : Nat, k ≤ n ∧ i = .int .i64 k ∧ Hid (wr.heap[w.heap.size + 1]? = some (.cells #[.slice (some ⟨cb, 0, none⟩) cw.length cap, .int .i64 rows, .int .i64 cols, .slice (some ⟨w.heap.size, 0, none⟩) n n] 138)) ∧ Hid (Row wr w.heap.size .i8 139 (upTo n k)) ∧ Hid (Below w.heap.size w wr) ∧ w.heap.size + 2 ≤ wr.heap.size) (fun i _ => n - (intOf i).toNat)
  case atStart =>
    refine ⟨0, by omega, rfl, new_last (by simp) _, ?_, ((Below.refl _ _).alloc (Nat.le_refl _) _).alloc (by simp) _, by simp⟩
    rw [upTo_zero]
    exact (Row.new _ _ _ _).alloc _
  case round =>
    obtain ⟨k, hk, rfl, h1, h2, h3, h4⟩ := hrel
    have k3 : wr.cell? ⟨w.heap.size + 1, 3, none⟩ = some (.slice (some ⟨w.heap.size, 0, none⟩) n n) := by rw [cell_blk h1.out]; rfl
    by_cases hlt : k < n
    · have f2 := h2.out.free k
      have cx := h2.out.cell (i := k) (by rw [upTo_len hk]; exact hlt)
      have S := h2.out.set k (-1)
      rw [upTo_set hlt] at S
      have SS := Lib.hid S
      clear S
      have S1 := Lib.hid (show (wr.setCell ⟨w.heap.size, k, none⟩ (.int .i8 (-1))).heap[w.heap.size + 1]? = some (.cells #[.slice (some ⟨cb, 0, none⟩) cw.length cap, .int .i64 rows, .int .i64 cols, .slice (some ⟨w.heap.size, 0, none⟩) n n] 138) by rw [Below.heap_setCell _ _ _ _ (by simp)]; exact h1.out)
      have S2 := Lib.hid (h3.out.setCell (p := ⟨w.heap.size, k, none⟩) (Nat.le_refl _) (.int .i8 (-1)))
      go_wp2
      exact ⟨⟨k + 1, by omega, by go_num, S1, SS, S2, by simp [World.setCell]; omega⟩, by simp [intOf]; omega⟩
    · obtain rfl : n = k := by omega
      go_wp2
      go_ret
      have hlen : (foldE rows cols cw []).length = n := by rw [foldE, List.length_replicate, HN.out]
      have hfe : foldE rows cols cw [] = upTo n n := by rw [upTo_full, foldE, HN.out]
      refine ⟨rfl, ⟨?_, ?_, HC.out.below h3.out HC.out.1, h3.out, Nat.le_refl _, by omega, by have := HC.out.1; omega, ?_, r0, r1, c0, c1⟩, h4⟩
      · rw [hlen]; exact h1.out
      · rw [hfe]; exact h2.out
      · rw [hlen, HN.out]
end Go.Proofs.YtcnallabiffemaaGreatDoor
