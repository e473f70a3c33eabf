/- The logarithms of the field that the encoder makes. -/
import Derived.Test.YtcnallabiffemaaGreatDoorB0
set_option linter.unusedVariables false
set_option linter.unusedSimpArgs false
namespace Go.Proofs.YtcnallabiffemaaGreatDoor
open Go.RowKit

theorem i64_bits (op : BinOp) (f : Nat → Nat → Nat) (g : BitVec 64 → BitVec 64 → BitVec 64) (hg : ∀ x y, (g x y).toNat = f x.toNat y.toNat)
    (hb : ∀ x y, bits op .i64 x y = IntKind.i64.wrap ((g (BitVec.ofInt 64 x) (BitVec.ofInt 64 y)).toNat : Int))
    (a b : Nat) (ha : a < 9223372036854775808) (hbb : b < 9223372036854775808) (hf : f a b < 9223372036854775808) : bits op .i64 (a : Int) (b : Int) = ((f a b : Nat) : Int) := by
  have h1 : (BitVec.ofInt 64 (a : Int)).toNat = a := by simp [BitVec.toNat_ofInt]; omega
  have h2 : (BitVec.ofInt 64 (b : Int)).toNat = b := by simp [BitVec.toNat_ofInt]; omega
  rw [hb, hg, h1, h2, IntKind.wrap_i64]; omega
theorem xor64 (a b : Nat) (ha : a < 2 ^ 63) (hb : b < 2 ^ 63) : bits .xor .i64 (a : Int) (b : Int) = ((a ^^^ b : Nat) : Int) :=
  i64_bits .xor (· ^^^ ·) (· ^^^ ·) (fun _ _ => BitVec.toNat_xor ..) (fun _ _ => rfl) a b ha hb (Nat.xor_lt_two_pow ha hb)
theorem and64 (a b : Nat) (ha : a < 2 ^ 63) (hb : b < 2 ^ 63) : bits .and .i64 (a : Int) (b : Int) = ((a &&& b : Nat) : Int) :=
  i64_bits .and (· &&& ·) (· &&& ·) (fun _ _ => BitVec.toNat_and ..) (fun _ _ => rfl) a b ha hb (Nat.lt_of_le_of_lt Nat.and_le_left ha)
theorem or64 (a b : Nat) (ha : a < 2 ^ 63) (hb : b < 2 ^ 63) : bits .or .i64 (a : Int) (b : Int) = ((a ||| b : Nat) : Int) :=
  i64_bits .or (· ||| ·) (· ||| ·) (fun _ _ => BitVec.toNat_or ..) (fun _ _ => rfl) a b ha hb (Nat.or_lt_two_pow ha hb)

def dblN (p : Nat) : Nat := if 256 ≤ 2 * p then (2 * p) ^^^ 301 else 2 * p
def powN : Nat → Nat
  | 0 => 1
  | i + 1 => dblN (powN i)
def alogL : Nat → List Int
  | 0 => zs 255
  | i + 1 => (alogL i).set i (powN i)
def logL : Nat → List Int
  | 0 => zs 256
  | i + 1 => (logL i).set (powN i) i

theorem length_alogL (i : Nat) : (alogL i).length = 255 := by induction i <;> simp_all [alogL]
theorem length_logL (i : Nat) : (logL i).length = 256 := by induction i <;> simp_all [logL]
theorem dblN_lt {p : Nat} (h : p < 256) : dblN p < 256 := by
  have : ∀ p, p < 256 → dblN p < 256 := by decide +kernel
  exact this p h
theorem powN_lt (i : Nat) : powN i < 256 := by
  induction i with
  | zero => decide
  | succ i ih => exact dblN_lt ih

theorem dbl_hi {k : Nat} (h : 256 ≤ ((powN k : Nat) : Int) * 2) : bits .xor .i64 (((powN k : Nat) : Int) * 2) 301 = ((powN (k + 1) : Nat) : Int) := by
  have hp := powN_lt k
  have := xor64 (2 * powN k) 301 (by omega) (by omega)
  rw [show (((powN k : Nat) : Int) * 2) = ((2 * powN k : Nat) : Int) by omega]
  rw [show (301 : Int) = ((301 : Nat) : Int) from rfl, this]
  simp only [powN, dblN]
  rw [if_pos (by omega)]
theorem dbl_lo {k : Nat} (h : ((powN k : Nat) : Int) * 2 < 256) : ((powN k : Nat) : Int) * 2 = ((powN (k + 1) : Nat) : Int) := by
  simp only [powN, dblN]
  rw [if_neg (by omega)]
  omega

theorem Row.step2 {w wr : World} {B k p : Nat} {l a : List Int} {v u : Int} (hb : Below B w wr) (h1 : Row wr B .i64 3 l) (h2 : Row wr (B + 1) .i64 3 a) (hs : w.heap.size = B) :
    Below B w ((wr.setCell ⟨B + 1, k, none⟩ (.int .i64 v)).setCell ⟨B, p, none⟩ (.int .i64 u)) ∧
    Row ((wr.setCell ⟨B + 1, k, none⟩ (.int .i64 v)).setCell ⟨B, p, none⟩ (.int .i64 u)) B .i64 3 (l.set p u) ∧
    Row ((wr.setCell ⟨B + 1, k, none⟩ (.int .i64 v)).setCell ⟨B, p, none⟩ (.int .i64 u)) (B + 1) .i64 3 (a.set k v) :=
  ⟨(hb.setCell (by simp) _).setCell (by simp) _, (h1.set_ne (by simp) _).set _ _, (h2.set _ _).set_ne (by simp) _⟩

set_option maxRecDepth 100000 in
set_option maxHeartbeats 4000000 in
theorem tables_calls (w : World) :
    Calls Tryz.prog 136 #[] w fun en w' =>
      en = .returned (.tuple #[.slice (some ⟨w.heap.size, 0, none⟩) 256 256, .slice (some ⟨w.heap.size + 1, 0, none⟩) 255 255]) ∧ Below w.heap.size w w' ∧ w.heap.size + 2 ≤ w'.heap.size ∧
        Row w' w.heap.size .i64 3 (logL 255) ∧ Row w' (w.heap.size + 1) .i64 3 (alogL 255) := by
  have hm1 := make28 256 (by omega) (by omega)
  have hm2 := make28 255 (by omega) (by omega)
  go_enter Tryz.func136, Tryz.ntmps136
  go_wp2
  go_loopw [2, 3] (fun p i wr => ∃ k : Nat, k ≤ 255 ∧ p = .int .i64 (powN k : Nat) ∧ i = .int .i64 k ∧ Below w.heap.size w wr ∧ w.heap.size + 2 ≤ wr.heap.size ∧ Row wr w.heap.size .i64 3 (logL k) ∧ Row wr (w.heap.size + 1) .i64 3 (alogL k)) (fun _ i _ => 255 - (intOf i).toNat)
  case atStart =>
    refine ⟨0, by omega, rfl, rfl, ((Below.refl _ _).alloc (Nat.le_refl _) _).alloc (by simp) _, by simp, (Row.new _ _ _ _).alloc _, ?_⟩
    have := Row.new (w.alloc (Obj.cells (irow IntKind.i64 (zs 256)) 3)) .i64 3 (zs 255)
    simpa [alogL] using this
  case round =>
    obtain ⟨k, hk, rfl, rfl, hb, hsz, hr1, hr2⟩ := hrel
    by_cases hlt : k < 255
    · have hp := powN_lt k
      have c1 := hr1.cell (i := powN k) (by rw [length_logL]; omega)
      have c2 := hr2.cell (i := k) (by rw [length_alogL]; omega)
      have f1 := hr1.free (powN k)
      have f2 := hr2.free k
      obtain ⟨s1, s2, s3⟩ := Row.step2 (k := k) (p := powN k) (v := (powN k : Nat)) (u := k) hb hr1 hr2 rfl
      have S1 := Lib.hid s1
      have S2 := Lib.hid s2
      have S3 := Lib.hid s3
      clear hb hr1 hr2 s1 s2 s3 hm1 hm2
      go_wp2
      · rename_i hx
        exact ⟨⟨k + 1, by omega, by rw [dbl_hi hx], by go_num, S1.out, by simp; omega, S2.out, S3.out⟩, by simp [intOf]; omega⟩
      · rename_i hx
        exact ⟨⟨k + 1, by omega, by rw [dbl_lo hx], by go_num, S1.out, by simp; omega, S2.out, S3.out⟩, by simp [intOf]; omega⟩
    · obtain rfl : k = 255 := by omega
      go_wp2
      go_ret2
      exact ⟨rfl, hb, hsz, hr1, hr2⟩
end Go.Proofs.YtcnallabiffemaaGreatDoor
