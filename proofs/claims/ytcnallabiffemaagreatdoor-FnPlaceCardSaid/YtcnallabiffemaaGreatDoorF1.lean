/- Setting and reading a module of the matrix of bytes; the matrix of bits. -/
import Derived.Test.YtcnallabiffemaaGreatDoorF0
set_option linter.unusedVariables false
set_option linter.unusedSimpArgs false
namespace Go.Proofs.YtcnallabiffemaaGreatDoor
open Go.RowKit

def putM (M : Nat → List Int) (y x : Nat) (v : Int) : Nat → List Int := fun y' => if y' = y then (M y).set x v else M y'

section
variable {w : World} {B W H : Nat} {M : Nat → List Int}
theorem BMat.h0 (h : BMat w B W H M) : w.cell? ⟨B + 1 + H, 0, none⟩ = some (.slice (some ⟨B, 0, none⟩) H H) := by rw [cell_blk h.hdr]; rfl
theorem BMat.h1 (h : BMat w B W H M) : w.cell? ⟨B + 1 + H, 1, none⟩ = some (.int .i64 W) := by rw [cell_blk h.hdr]; rfl
theorem BMat.h2 (h : BMat w B W H M) : w.cell? ⟨B + 1 + H, 2, none⟩ = some (.int .i64 H) := by rw [cell_blk h.hdr]; rfl
theorem BMat.hp (h : BMat w B W H M) {y : Nat} (hy : y < H) : w.cell? ⟨B, y, none⟩ = some (.slice (some ⟨B + 1 + y, 0, none⟩) W W) := by
  rw [cell_blk h.ptr, rowsArr_get _ _ _ _ _ hy, if_pos hy]
theorem BMat.set (h : BMat w B W H M) {y x : Nat} (hy : y < H) (v : Int) : BMat (w.setCell ⟨B + 1 + y, x, none⟩ (.int .i8 v)) B W H (putM M y x v) where
  hdr := by rw [Below.heap_setCell _ _ _ _ (by simp; omega)]; exact h.hdr
  ptr := by rw [Below.heap_setCell _ _ _ _ (by simp; omega)]; exact h.ptr
  row := fun y' hy' => by
    unfold putM
    by_cases e : y' = y
    · subst e; rw [if_pos rfl]; exact (h.row y' hy').set x v
    · rw [if_neg e]; exact (h.row y' hy').set_ne (by simp; omega) _
  len := fun y' hy' => by
    unfold putM
    by_cases e : y' = y
    · subst e; rw [if_pos rfl, List.length_set]; exact h.len _ hy'
    · rw [if_neg e]; exact h.len _ hy'
end

def SetPost (B W H : Nat) (M : Nat → List Int) (w : World) (e : Ending) (w' : World) : Prop := e = .returned (.tuple #[]) ∧ BMat w' B W H M ∧ Below B w w'

theorem setBool_calls {w : World} {B W H : Nat} {M : Nat → List Int} (h : BMat w B W H M) (x y : Nat) (v : Bool) (hx : x < W) (hy : y < H) (hW : W ≤ 1000) (hH : H ≤ 1000) :
    Calls Tryz.prog 117 #[.pointer (some ⟨B + 1 + H, 0, none⟩), .int .i64 x, .int .i64 y, .bool v] w (SetPost B W H (putM M y x (b2i v)) w) := by
  have c0 := h.h0
  have c1 := h.hp hy
  have c2 := (h.row y hy).cell (i := x) (by rw [h.len y hy]; exact hx)
  have f2 := (h.row y hy).free x
  have S := Lib.hid (h.set (x := x) hy (b2i v))
  have T := Lib.hid (Below.setCell (Below.refl B w) (p := ⟨B + 1 + y, x, none⟩) (by simp; omega) (.int .i8 (b2i v)))
  clear h
  cases v
  all_goals
    go_enter Tryz.func117, Tryz.ntmps117
    go_wp2
    go_end0
    exact ⟨rfl, S.out, T.out⟩

theorem getBM_calls {w : World} {B W H : Nat} {M : Nat → List Int} (h : BMat w B W H M) (x y : Nat) (hx : x < W) (hy : y < H) (hW : W ≤ 1000) (hH : H ≤ 1000) :
    Calls Tryz.prog 141 #[.pointer (some ⟨B + 1 + H, 0, none⟩), .int .i64 x, .int .i64 y] w fun e w' => e = .returned (.int .i8 ((M y).getD x 0)) ∧ w = w' := by
  have c0 := h.h0
  have c1 := h.hp hy
  have c2 := (h.row y hy).cell (i := x) (by rw [h.len y hy]; exact hx)
  clear h
  generalize (M y).getD x 0 = z at *
  go_enter Tryz.func141, Tryz.ntmps141
  go_wp2
  go_ret
  exact ⟨rfl, rfl⟩

/-- words of 32 bits in a row -/
def rsOf (W : Nat) : Nat := (W + 31) / 32
/-- a matrix of bits -/
structure BitM (w : World) (b W H : Nat) (bits : List Nat) : Prop where
  blk : w.heap[b]? = some (.cells #[.int .i64 W, .int .i64 H, .int .i64 (rsOf W), .slice (some ⟨b - 1, 0, none⟩) bits.length bits.length] 101)
  row : Row w (b - 1) .u32 102 (nl bits)
  pos : 0 < b
  len : bits.length = rsOf W * H

theorem new_last {w : World} {n : Nat} (h : w.heap.size = n) (o : Obj) : (w.alloc o).heap[n]? = some o := by
  subst h; rw [alloc_heap]; exact Array.getElem?_push_size

def NewBitPost (W H : Nat) (w : World) (e : Ending) (w' : World) : Prop :=
  e = .returned (.tuple #[.pointer (some ⟨w.heap.size + 1, 0, none⟩), .nilIface]) ∧ BitM w' (w.heap.size + 1) W H (List.replicate (rsOf W * H) 0) ∧ Below w.heap.size w w' ∧ w.heap.size + 2 ≤ w'.heap.size

theorem newBit_calls (W H : Nat) (hW0 : 1 ≤ W) (hH0 : 1 ≤ H) (hW : W ≤ 1000) (hH : H ≤ 1000) (w : World) :
    Calls Tryz.prog 139 #[.int .i64 W, .int .i64 H] w (NewBitPost W H w) := by
  have hrs : ((W : Int) + 31) / 32 = (rsOf W : Int) := by unfold rsOf; omega
  have hrb : rsOf W ≤ 33 := by unfold rsOf; omega
  have hm0 : rsOf W * H ≤ 33 * 1000 := Nat.mul_le_mul hrb hH
  have hm1 : ((rsOf W * H : Nat) : Int) = (rsOf W : Int) * (H : Int) := by simp
  have hm := make99 ((rsOf W : Int) * (H : Int)) (by omega) (by omega)
  rw [show ((rsOf W : Int) * (H : Int)).toNat = rsOf W * H by omega] at hm
  have hb1 : (0 : Int) ≤ (rsOf W : Int) * (H : Int) := by omega
  have hb2 : (rsOf W : Int) * (H : Int) ≤ 33000 := by omega
  clear hm0 hm1
  go_enter Tryz.func139, Tryz.ntmps139
  go_wp2
  go_ret2
  refine ⟨rfl, ⟨?_, ?_, by omega, by simp⟩, ((Below.refl _ _).alloc (Nat.le_refl _) _).alloc (by simp) _, by simp⟩
  · rw [List.length_replicate]
    exact new_last (by simp) _
  · rw [← zs_nl]; exact (Row.new _ _ _ _).alloc _
end Go.Proofs.YtcnallabiffemaaGreatDoor
