/- The matrix of bytes becomes a matrix of bits. -/
import Derived.Test.YtcnallabiffemaaGreatDoorF2
set_option linter.unusedVariables false
set_option linter.unusedSimpArgs false
namespace Go.Proofs.YtcnallabiffemaaGreatDoor
open Go.RowKit

structure Filled (W H : Nat) (M : Nat → List Int) (bits : List Nat) (y x : Nat) : Prop where
  small : Small32 bits
  len : bits.length = rsOf W * H
  pix : ∀ X Y, X < W → Y < H → pixel W bits X Y = (decide (Y < y ∨ (Y = y ∧ X < x)) && ((M Y).getD X 0 == 1))

theorem Small32.or {bits : List Nat} (h : Small32 bits) (i s : Nat) (hs : s < 32) : Small32 (orBit bits i s) := by
  intro j
  have h2 : 2 ^ s < 2 ^ 32 := Nat.pow_lt_pow_right (by omega) hs
  have h3 : bits.getD i 0 ||| 2 ^ s < 2 ^ 32 := Nat.or_lt_two_pow (h i) h2
  simp only [orBit, List.getD_eq_getElem?_getD, List.getElem?_set]
  split
  · split
    · simpa [List.getD_eq_getElem?_getD] using h3
    · simp
  · have := h j; simpa [List.getD_eq_getElem?_getD] using this

theorem getD_setN {bits : List Nat} {i n v : Nat} (hn : n < bits.length) : (bits.set i v).getD n 0 = if i = n then v else bits.getD n 0 := by
  simp only [List.getD_eq_getElem?_getD, List.getElem?_set]
  by_cases e : i = n
  · subst e; simp [hn]
  · simp [e]

theorem idx_lt {W H x y : Nat} (hx : x < W) (hy : y < H) : y * rsOf W + x / 32 < rsOf W * H := by
  have hx32 : x / 32 < rsOf W := by unfold rsOf; omega
  have := Nat.mul_le_mul_right (rsOf W) hy
  rw [Nat.succ_mul] at this
  rw [Nat.mul_comm (rsOf W) H]; omega

theorem pixel_or {W H : Nat} {bits : List Nat} {x y X Y : Nat} (hl : bits.length = rsOf W * H) (hX : X < W) (hY : Y < H) (hx : x < W) :
    pixel W (orBit bits (y * rsOf W + x / 32) (x % 32)) X Y = (pixel W bits X Y || decide (X = x ∧ Y = y)) := by
  unfold pixel orBit
  have hx32 : x / 32 < rsOf W := by unfold rsOf; omega
  have hX32 : X / 32 < rsOf W := by unfold rsOf; omega
  rw [getD_setN (by rw [hl]; exact idx_lt hX hY)]
  by_cases e : y * rsOf W + x / 32 = Y * rsOf W + X / 32
  · rw [if_pos e]
    have e1 : y = Y := by
      rcases Nat.lt_trichotomy y Y with h | h | h
      · have := Nat.mul_le_mul_right (rsOf W) (Nat.succ_le_of_lt h); rw [Nat.succ_mul] at this; omega
      · exact h
      · have := Nat.mul_le_mul_right (rsOf W) (Nat.succ_le_of_lt h); rw [Nat.succ_mul] at this; omega
    subst e1
    have e2 : x / 32 = X / 32 := by omega
    rw [← e2, Nat.testBit_or, Nat.testBit_two_pow]
    congr 1
    simp only [decide_eq_decide]
    constructor
    · intro h; exact ⟨by omega, trivial⟩
    · intro h; omega
  · rw [if_neg e]
    have : ¬ (X = x ∧ Y = y) := fun h => e (by rw [h.1, h.2])
    simp [this]

theorem Filled.start (W H : Nat) (M : Nat → List Int) : Filled W H M (List.replicate (rsOf W * H) 0) 0 0 := by
  refine ⟨fun i => ?_, by simp, fun X Y hX hY => ?_⟩
  · simp only [List.getD_eq_getElem?_getD, List.getElem?_replicate]; split <;> simp
  · unfold pixel
    have : (List.replicate (rsOf W * H) 0).getD (Y * rsOf W + X / 32) 0 = 0 := by
      simp only [List.getD_eq_getElem?_getD, List.getElem?_replicate]; split <;> simp
    rw [this]; simp
theorem Filled.yes {W H : Nat} {M : Nat → List Int} {bits : List Nat} {y x : Nat} (h : Filled W H M bits y x) (hx : x < W) (hm : (M y).getD x 0 = 1) :
    Filled W H M (orBit bits (y * rsOf W + x / 32) (x % 32)) y (x + 1) := by
  refine ⟨h.small.or _ _ (by omega), by simp [orBit, h.len], fun X Y hX hY => ?_⟩
  rw [pixel_or h.len hX hY hx, h.pix X Y hX hY]
  by_cases e : X = x ∧ Y = y
  · obtain ⟨rfl, rfl⟩ := e
    rw [hm]; simp
  · have e2 : (Y < y ∨ Y = y ∧ X < x) ↔ (Y < y ∨ Y = y ∧ X < x + 1) := by omega
    simp only [e, decide_false, Bool.or_false]
    simp only [e2]
theorem Filled.no {W H : Nat} {M : Nat → List Int} {bits : List Nat} {y x : Nat} (h : Filled W H M bits y x) (hm : ((M y).getD x 0 == 1) = false) : Filled W H M bits y (x + 1) := by
  refine ⟨h.small, h.len, fun X Y hX hY => ?_⟩
  rw [h.pix X Y hX hY]
  by_cases e : X = x ∧ Y = y
  · obtain ⟨rfl, rfl⟩ := e
    rw [hm]; simp
  · have e2 : (Y < y ∨ Y = y ∧ X < x) ↔ (Y < y ∨ Y = y ∧ X < x + 1) := by omega
    simp only [e2]
theorem Filled.row {W H : Nat} {M : Nat → List Int} {bits : List Nat} {y : Nat} (h : Filled W H M bits y W) : Filled W H M bits (y + 1) 0 := by
  refine ⟨h.small, h.len, fun X Y hX hY => ?_⟩
  rw [h.pix X Y hX hY]
  have e2 : (Y < y ∨ Y = y ∧ X < W) ↔ (Y < y + 1 ∨ Y = y + 1 ∧ X < 0) := by omega
  simp only [e2]

def ConvPost (W H : Nat) (M : Nat → List Int) (w : World) (e : Ending) (w' : World) : Prop :=
  ∃ b bits, w.heap.size < b ∧ e = .returned (.pointer (some ⟨b, 0, none⟩)) ∧ BitM w' b W H bits ∧ Filled W H M bits H 0 ∧ Below w.heap.size w w'

set_option maxRecDepth 100000 in
set_option maxHeartbeats 8000000 in
theorem conv_calls {w : World} {B W H : Nat} {M : Nat → List Int} (h : BMat w B W H M) (hB : B + 1 + H < w.heap.size) (hW0 : 1 ≤ W) (hH0 : 1 ≤ H) (hW : W ≤ 1000) (hH : H ≤ 1000) :
    Calls Tryz.prog 119 #[.pointer (some ⟨B + 1 + H, 0, none⟩), .int .i64 0, .int .i64 0] w (ConvPost W H M w) := by
  have h1 := h.h1
  have h2 := h.h2
  have q1 : (W : Int) / (W : Int) = 1 := Int.ediv_self (by omega)
  have q2 : (H : Int) / (H : Int) = 1 := Int.ediv_self (by omega)
  have hrn : rsOf W * H ≤ 100000 := by
    have h0 : rsOf W ≤ 33 := by unfold rsOf; omega
    have : rsOf W * H ≤ 33 * 1000 := Nat.mul_le_mul h0 hH
    omega
  have HM := Lib.hid h
  clear h
  go_enter Tryz.func119, Tryz.ntmps119
  go_wp2_with (first | (go_at_call 139; refine (newBit_calls W H hW0 hH0 hW hH _).mono ?_; rintro e w1 ⟨rfl, hb1, hbl1, hz1⟩; have HB1 := Lib.hid hb1; have HL1 := Lib.hid hbl1; clear hb1 hbl1) | (go_at_call 140; refine (clear_calls HB1.out hrn).mono ?_; rintro e w2 ⟨rfl, hb2, hbl2⟩; have HB2 := Lib.hid hb2; have HL2 := Lib.hid (HL1.out.trans hbl2); clear hb2 hbl2) | (go_at_call 137; go_in) | (go_at_call 138; go_in))
  go_loopw [16, 17] (fun i j wr => ∃ y : Nat, y ≤ H ∧ i = .int .i64 y ∧ j = .int .i64 y ∧ ∃ bits, Hid (BitM wr (w.heap.size + 1) W H bits) ∧ Hid (Filled W H M bits y 0) ∧ Hid (Below w.heap.size w wr)) (fun i _ _ => H - (intOf i).toNat)
  case atStart => exact ⟨0, by omega, rfl, rfl, _, HB2, Filled.start W H M, HL2⟩
  case round =>
    clear HB1 HL1 HB2 HL2
    obtain ⟨y, hy, rfl, rfl, bits, g1, g2, g3⟩ := hrel
    by_cases hlt : y < H
    · go_wp2
      go_loopw [18, 19] (fun i j wr => ∃ x : Nat, x ≤ W ∧ i = .int .i64 x ∧ j = .int .i64 x ∧ ∃ bits, Hid (BitM wr (w.heap.size + 1) W H bits) ∧ Hid (Filled W H M bits y x) ∧ Hid (Below w.heap.size w wr)) (fun i _ _ => W - (intOf i).toNat)
      case atStart => exact ⟨0, by omega, rfl, rfl, _, g1, g2, g3⟩
      case round =>
        clear g1 g2 g3
        obtain ⟨x, hx, rfl, rfl, bits, g1, g2, g3⟩ := hrel
        by_cases hltx : x < W
        · have hmat := HM.out.below g3.out hB
          have hbit : ((M y).getD x 0 == 1) = true ∨ ((M y).getD x 0 == 1) = false := by cases ((M y).getD x 0 == 1) <;> simp
          rcases hbit with hbit | hbit
          · have HY := Lib.hid (g2.out.yes hltx (by simpa using hbit))
            rw [List.getD_eq_getElem?_getD] at hbit
            go_wp2_with (first | (go_at_call 141; refine (getBM_calls hmat x y hltx hlt hW hH).mono ?_; rintro e w1 ⟨rfl, rfl⟩) | (go_at_call 142; refine (setReg_calls g1.out g2.out.small x y hltx hlt hW hH).mono ?_; rintro e w3 ⟨rfl, hb3, hbl3⟩; have HB3 := Lib.hid hb3; have HL3 := Lib.hid (g3.out.trans hbl3); clear hb3 hbl3))
            exact ⟨⟨x + 1, by omega, by go_num, by go_num, _, HB3, HY, HL3⟩, by simp [intOf]; omega⟩
          · have HY := Lib.hid (g2.out.no hbit)
            rw [List.getD_eq_getElem?_getD] at hbit
            go_wp2_with (first | (go_at_call 141; refine (getBM_calls hmat x y hltx hlt hW hH).mono ?_; rintro e w1 ⟨rfl, rfl⟩))
            exact ⟨⟨x + 1, by omega, by go_num, by go_num, _, g1, HY, g3⟩, by simp [intOf]; omega⟩
        · obtain rfl : x = W := by omega
          have HY := Lib.hid g2.out.row
          go_wp2
          exact ⟨⟨y + 1, by omega, by go_num, by go_num, _, g1, HY, g3⟩, by simp [intOf]; omega⟩
    · obtain rfl : y = H := by omega
      go_wp2
      go_ret
      exact ⟨_, _, by omega, rfl, g1.out, g2.out, g3.out⟩
end Go.Proofs.YtcnallabiffemaaGreatDoor
