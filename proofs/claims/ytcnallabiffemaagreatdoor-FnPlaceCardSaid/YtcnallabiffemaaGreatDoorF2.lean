/- The matrix of bits: clearing it, setting one module, reading one. -/
import Derived.Test.YtcnallabiffemaaGreatDoorF1
set_option linter.unusedVariables false
set_option linter.unusedSimpArgs false
namespace Go.Proofs.YtcnallabiffemaaGreatDoor
open Go.RowKit

section
variable {w : World} {b W H : Nat} {bits : List Nat}
theorem BitM.k0 (h : BitM w b W H bits) : w.cell? ⟨b, 0, none⟩ = some (.int .i64 W) := by rw [cell_blk h.blk]; rfl
theorem BitM.k1 (h : BitM w b W H bits) : w.cell? ⟨b, 1, none⟩ = some (.int .i64 H) := by rw [cell_blk h.blk]; rfl
theorem BitM.k2 (h : BitM w b W H bits) : w.cell? ⟨b, 2, none⟩ = some (.int .i64 (rsOf W)) := by rw [cell_blk h.blk]; rfl
theorem BitM.k3 (h : BitM w b W H bits) : w.cell? ⟨b, 3, none⟩ = some (.slice (some ⟨b - 1, 0, none⟩) bits.length bits.length) := by rw [cell_blk h.blk]; rfl
theorem BitM.set (h : BitM w b W H bits) (i v : Nat) : BitM (w.setCell ⟨b - 1, i, none⟩ (.int .u32 (v : Int))) b W H (bits.set i v) where
  blk := by rw [Below.heap_setCell _ _ _ _ (by have := h.pos; simp; omega), List.length_set]; exact h.blk
  row := by have := h.row.set i (v : Int); rwa [set_nl] at this
  pos := h.pos
  len := by rw [List.length_set]; exact h.len
theorem BitM.drewN (h : BitM w b W H bits) (n : Nat) : BitM (w.drewN n) b W H bits := ⟨h.blk, h.row, h.pos, h.len⟩
theorem BitM.below {w' : World} {B : Nat} (h : BitM w b W H bits) (hb : Below B w w') (hB : b < B) : BitM w' b W H bits :=
  ⟨(hb.block _ hB).trans h.blk, h.row.below hb (by omega), h.pos, h.len⟩
end

def BitPost (b W H : Nat) (bits : List Nat) (v : Value) (w : World) (e : Ending) (w' : World) : Prop := e = .returned v ∧ BitM w' b W H bits ∧ Below (b - 1) w w'

theorem set_zero (n i : Nat) : (List.replicate n 0).set i 0 = List.replicate n 0 := by
  apply List.ext_getElem
  · simp
  · intro j h1 h2
    rw [List.getElem_set]; split <;> simp

theorem clear_calls {w : World} {b W H n : Nat} (h : BitM w b W H (List.replicate n 0)) (hn : n ≤ 100000) :
    Calls Tryz.prog 140 #[.pointer (some ⟨b, 0, none⟩)] w (BitPost b W H (List.replicate n 0) (.tuple #[]) w) := by
  have k3 := h.k3
  rw [List.length_replicate] at k3
  have hh := Lib.hid h
  clear h
  go_enter Tryz.func140, Tryz.ntmps140
  go_wp2
  go_loopw [3] (fun i wr => ∃ k : Nat, k ≤ n ∧ i = .int .i64 k ∧ Hid (BitM wr b W H (List.replicate n 0)) ∧ Hid (Below (b - 1) w wr)) (fun i _ => n - (intOf i).toNat)
  case atStart => exact ⟨0, by omega, rfl, hh, Below.refl _ _⟩
  case round =>
    obtain ⟨k, hk, rfl, h1, h2⟩ := hrel
    by_cases hlt : k < n
    · have k3 := h1.out.k3
      rw [List.length_replicate] at k3
      have c1 := h1.out.row.cell (i := k) (by simpa using hlt)
      have f1 := h1.out.row.free k
      have s1 := h1.out.set k 0
      rw [set_zero] at s1
      have S1 := Lib.hid s1
      have S2 := Lib.hid (h2.out.setCell (p := ⟨b - 1, k, none⟩) (Nat.le_refl _) (.int .u32 ((0 : Nat) : Int)))
      clear s1
      go_wp2
      exact ⟨⟨k + 1, by omega, by go_num, S1, S2⟩, by simp [intOf]; omega⟩
    · obtain rfl : k = n := by omega
      go_wp2
      go_end0
      exact ⟨rfl, h1.out, h2.out⟩

def orBit (bits : List Nat) (i s : Nat) : List Nat := bits.set i (bits.getD i 0 ||| 2 ^ s)
def Small32 (xs : List Nat) : Prop := ∀ i, xs.getD i 0 < 4294967296

theorem or32 {z s : Nat} (hz : z < 4294967296) (hs : s < 32) : Go.bits .or .u32 (z : Int) ((2 : Int) ^ s % 4294967296) = ((z ||| 2 ^ s : Nat) : Int) := by
  have h2 : 2 ^ s < 4294967296 := Nat.lt_of_lt_of_le (Nat.pow_lt_pow_right (by omega) hs) (by decide)
  have h3 : (2 : Int) ^ s = ((2 ^ s : Nat) : Int) := by rw [Int.natCast_pow]; rfl
  have h5 : ((2 ^ s : Nat) : Int) % 4294967296 = ((2 ^ s : Nat) : Int) := by
    generalize 2 ^ s = q at *
    omega
  rw [h3, h5]
  exact u32_or_nat z (2 ^ s) hz h2

set_option maxHeartbeats 1000000 in
theorem setReg_calls {w : World} {b W H : Nat} {bits : List Nat} (h : BitM w b W H bits) (hs : Small32 bits) (x y : Nat) (hx : x < W) (hy : y < H) (hW : W ≤ 1000) (hH : H ≤ 1000) :
    Calls Tryz.prog 142 #[.pointer (some ⟨b, 0, none⟩), .int .i64 x, .int .i64 y, .int .i64 1, .int .i64 1] w (BitPost b W H (orBit bits (y * rsOf W + x / 32) (x % 32)) .nilIface w) := by
  have k0 := h.k0
  have k1 := h.k1
  have hrb : rsOf W ≤ 33 := by unfold rsOf; omega
  have hh := Lib.hid h
  clear h
  have hy0 : decide ((y : Int) < 0) = false := by simp
  have hx0 : decide ((x : Int) < 0) = false := by simp
  go_enter Tryz.func142, Tryz.ntmps142
  go_wp2
  go_loopw [13] (fun i wr => ∃ k : Nat, k ≤ 1 ∧ i = .int .i64 ((y : Int) + k) ∧ Hid (BitM wr b W H (if k = 0 then bits else orBit bits (y * rsOf W + x / 32) (x % 32))) ∧ Hid (Below (b - 1) w wr)) (fun i _ => (y + 1) - (intOf i).toNat)
  case atStart => exact ⟨0, by omega, by simp, hh, Below.refl _ _⟩
  case round =>
    obtain ⟨k, hk, rfl, h1, h2⟩ := hrel
    rcases (by omega : k = 0 ∨ k = 1) with rfl | rfl
    · rw [if_pos rfl] at h1
      rw [show (y : Int) + ((0 : Nat) : Int) = (y : Int) by omega]
      have k2 := h1.out.k2
      obtain ⟨p, hp⟩ : ∃ p : Nat, p = y * rsOf W := ⟨_, rfl⟩
      have hpi : (y : Int) * (rsOf W : Int) = (p : Int) := by rw [hp]; simp
      have hpb : p + rsOf W ≤ rsOf W * H := by
        rw [hp]
        have := Nat.mul_le_mul_right (rsOf W) hy
        rw [Nat.succ_mul] at this
        rw [Nat.mul_comm (rsOf W) H]; exact this
      have hpc : rsOf W * H ≤ 33 * 1000 := Nat.mul_le_mul hrb hH
      have hx32 : x / 32 < rsOf W := by unfold rsOf; omega
      have HPE := Lib.hid hp
      clear hp
      go_wp2
      go_loopw [15] (fun i wr => ∃ k : Nat, k ≤ 1 ∧ i = .int .i64 ((x : Int) + k) ∧ Hid (BitM wr b W H (if k = 0 then bits else orBit bits (p + x / 32) (x % 32))) ∧ Hid (Below (b - 1) w wr)) (fun i _ => (x + 1) - (intOf i).toNat)
      case atStart => exact ⟨0, by omega, by simp, h1, h2⟩
      case round =>
        clear h1 h2
        obtain ⟨k, hk, rfl, h1, h2⟩ := hrel
        rcases (by omega : k = 0 ∨ k = 1) with rfl | rfl
        · rw [if_pos rfl] at h1
          rw [show (x : Int) + ((0 : Nat) : Int) = (x : Int) by omega]
          have k3 := h1.out.k3
          have hl := h1.out.len
          have cx := h1.out.row.cell (i := p + x / 32) (by rw [length_nl]; omega)
          rw [getD_nl] at cx
          have fx := h1.out.row.free (p + x / 32)
          have sm := hs (p + x / 32)
          have S1 := Lib.hid (h1.out.set (p + x / 32) (bits.getD (p + x / 32) 0 ||| 2 ^ (x % 32)))
          obtain ⟨z, hz⟩ : ∃ z, z = bits.getD (p + x / 32) 0 := ⟨_, rfl⟩
          rw [← hz] at cx sm S1
          have HZ := Lib.hid hz
          clear hz
          have hlen : bits.length ≤ 33000 := by omega
          have hlt2 : (p : Int) + (x : Int) / 32 < (bits.length : Int) := by omega
          clear hl
          have i1 : ((p : Int) + (x : Int) / 32).toNat = p + x / 32 := by omega
          have S2 := Lib.hid (h2.out.setCell (p := ⟨b - 1, p + x / 32, none⟩) (Nat.le_refl _) (.int .u32 ((z ||| 2 ^ (x % 32) : Nat) : Int)))
          have HOR := Lib.hid (or32 sm (show x % 32 < 32 by omega))
          have HZB := Lib.hid (show bits.set (p + x / 32) (z ||| 2 ^ (x % 32)) = orBit bits (p + x / 32) (x % 32) by rw [orBit, HZ.out])
          go_wp2
          rw [HOR.out]
          exact ⟨⟨1, by omega, by simp, by rw [if_neg (by omega), ← HZB.out]; exact S1, S2⟩, by simp [intOf]⟩
        · rw [if_neg (by omega)] at h1
          go_wp2
          exact ⟨⟨1, by omega, by simp, by rw [if_neg (by omega), ← HPE.out]; exact h1.out, h2.out⟩, by simp [intOf]⟩
    · rw [if_neg (by omega)] at h1
      go_wp2
      go_ret
      exact ⟨rfl, h1.out, h2.out⟩

theorem and32 {z s : Nat} (hz : z < 4294967296) : (Go.bits .and .u32 ((z : Int) / (2 : Int) ^ s) 1 != 0) = z.testBit s := by
  have h3 : (z : Int) / (2 : Int) ^ s = ((z / 2 ^ s : Nat) : Int) := by rw [Int.natCast_ediv, Int.natCast_pow]; rfl
  have h4 : z / 2 ^ s < 4294967296 := Nat.lt_of_le_of_lt (Nat.div_le_self _ _) hz
  rw [h3, show (1 : Int) = ((1 : Nat) : Int) from rfl, u32_and_nat _ _ h4 (by omega), Nat.testBit, Nat.shiftRight_eq_div_pow, Nat.and_comm]
  by_cases e : 1 &&& z / 2 ^ s = 0
  · rw [e]; rfl
  · rw [show (1 &&& z / 2 ^ s != 0) = true by simpa using e]
    rw [bne_iff_ne]; intro h; exact e (Int.ofNat_eq_zero.1 h)

def pixel (W : Nat) (bits : List Nat) (x y : Nat) : Bool := (bits.getD (y * rsOf W + x / 32) 0).testBit (x % 32)

theorem getBits_calls {w : World} {b W H : Nat} {bits : List Nat} (h : BitM w b W H bits) (hs : Small32 bits) (x y : Nat) (hx : x < W) (hy : y < H) (hW : W ≤ 1000) (hH : H ≤ 1000) :
    Calls Tryz.prog 33 #[.pointer (some ⟨b, 0, none⟩), .int .i64 x, .int .i64 y] w fun e w' => e = .returned (.bool (pixel W bits x y)) ∧ w = w' := by
  have k0 := h.k0
  have k1 := h.k1
  have k2 := h.k2
  have k3 := h.k3
  have hrb : rsOf W ≤ 33 := by unfold rsOf; omega
  have hl := h.len
  have hpc : rsOf W * H ≤ 33 * 1000 := Nat.mul_le_mul hrb hH
  have hx32 : x / 32 < rsOf W := by unfold rsOf; omega
  have hpb : y * rsOf W + rsOf W ≤ rsOf W * H := by
    have := Nat.mul_le_mul_right (rsOf W) hy
    rw [Nat.succ_mul] at this
    rw [Nat.mul_comm (rsOf W) H]; exact this
  have cx := h.row.cell (i := y * rsOf W + x / 32) (by rw [length_nl]; omega)
  rw [getD_nl] at cx
  have sm := hs (y * rsOf W + x / 32)
  obtain ⟨p, hp⟩ : ∃ p : Nat, p = y * rsOf W := ⟨_, rfl⟩
  have hpi : (y : Int) * (rsOf W : Int) = (p : Int) := by rw [hp]; simp
  unfold pixel
  rw [← hp] at cx sm hpb ⊢
  have hlt2 : (p : Int) + (x : Int) / 32 < (bits.length : Int) := by omega
  have hlen : bits.length ≤ 33000 := by omega
  clear h hl hp
  generalize bits.getD (p + x / 32) 0 = z at *
  have i1 : ((p : Int) + (x : Int) / 32).toNat = p + x / 32 := by omega
  go_enter Tryz.func33, Tryz.ntmps33
  go_wp2
  go_ret
  refine ⟨?_, rfl⟩
  show Ending.returned (.bool (Go.bits .and .u32 ((z : Int) / (2 : Int) ^ (x % 32)) 1 != 0)) = _
  rw [and32 sm]
end Go.Proofs.YtcnallabiffemaaGreatDoor
