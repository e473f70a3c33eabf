/- Rows of whole numbers in memory: what they hold, how a store turns them; making them. -/
import Derived.Test.YtcnallabiffemaaGreatDoorA3
set_option linter.unusedVariables false
set_option linter.unusedSimpArgs false
namespace Go.Proofs.YtcnallabiffemaaGreatDoor
open Go.RowKit

def irow (k : IntKind) (xs : List Int) : Array Value := (xs.map (Value.int k)).toArray
def zs (n : Nat) : List Int := List.replicate n 0

@[simp] theorem size_irow (k : IntKind) (xs : List Int) : (irow k xs).size = xs.length := by simp [irow]
@[simp] theorem length_zs (n : Nat) : (zs n).length = n := by simp [zs]
theorem getD_zs (n i : Nat) : (zs n).getD i 0 = 0 := by
  simp only [zs, List.getD_eq_getElem?_getD, List.getElem?_replicate]; split <;> rfl
theorem irow_get (k : IntKind) (xs : List Int) (i : Nat) (h : i < xs.length) : (irow k xs)[i]? = some (.int k (xs.getD i 0)) := by
  simp [irow, h]
theorem irow_set (k : IntKind) (xs : List Int) (i : Nat) (v : Int) : (irow k xs).setIfInBounds i (.int k v) = irow k (xs.set i v) := by
  simp [irow, List.map_set]

/-- a block that is a row of numbers -/
def Row (w : World) (b : Nat) (k : IntKind) (T : TypeId) (xs : List Int) : Prop := w.heap[b]? = some (.cells (irow k xs) T)

section
variable {w w' : World} {b : Nat} {k : IntKind} {T : TypeId} {xs : List Int}
theorem Row.lt (h : Row w b k T xs) : b < w.heap.size := by
  unfold Row at h; exact (Array.getElem?_eq_some_iff.1 h).1
theorem Row.cell (h : Row w b k T xs) {i : Nat} (hi : i < xs.length) : w.cell? ⟨b, i, none⟩ = some (.int k (xs.getD i 0)) := by
  rw [cell_blk h, irow_get _ _ _ hi]
theorem Row.free (h : Row w b k T xs) (i : Nat) : w.frozen? ⟨b, i, none⟩ = false := frozen_blk h i
theorem Row.below {B : Nat} (h : Row w b k T xs) (hb : Below B w w') (hB : b < B) : Row w' b k T xs := (hb.block b hB).trans h
theorem Row.alloc (h : Row w b k T xs) (o : Obj) : Row (w.alloc o) b k T xs := by
  have := h.lt
  unfold Row; rw [Below.heap_alloc _ _ _ this]; exact h
theorem Row.set_ne (h : Row w b k T xs) {a : Addr} (ha : b ≠ a.block) (u : Value) : Row (w.setCell a u) b k T xs := by
  unfold Row; rw [Below.heap_setCell _ _ _ _ ha]; exact h
theorem heap_setCell_at {w : World} {b : Nat} {cs : Array Value} {T : TypeId} {fr : Nat × Nat} (h : w.heap[b]? = some (.cells cs T fr)) (i : Nat) (v : Value) :
    (w.setCell ⟨b, i, none⟩ v).heap[b]? = some (.cells (cs.setIfInBounds i v) T fr) := by
  simp [World.setCell, Array.getElem?_modify, h]
theorem Row.set (h : Row w b k T xs) (i : Nat) (v : Int) : Row (w.setCell ⟨b, i, none⟩ (.int k v)) b k T (xs.set i v) := by
  unfold Row; rw [heap_setCell_at h, irow_set]
theorem Row.drewN (h : Row w b k T xs) (n : Nat) : Row (w.drewN n) b k T xs := h
theorem Row.drew (h : Row w b k T xs) : Row w.drew b k T xs := h
theorem Row.new (w : World) (k : IntKind) (T : TypeId) (xs : List Int) : Row (w.alloc (.cells (irow k xs) T)) w.heap.size k T xs := by
  unfold Row; rw [alloc_heap]; simp
end

theorem madeCells_int (k : IntKind) (n : Nat) : madeCells #[.int k 0] n = irow k (zs n) := by
  apply Array.toList_inj.1
  rw [toList_madeCells_one]; simp [irow, zs]

theorem Tryz.inf3 : (Tryz.prog.info? 3).map (fun i => (i.zero, i.size, i.bytes)) = some (some (.int .i64 0), 1, 8) := by kernel_rfl
theorem Tryz.inf5 : (Tryz.prog.info? 5).map (fun i => (i.zero, i.size, i.bytes)) = some (some (.int .u8 0), 1, 1) := by kernel_rfl
theorem Tryz.inf139 : (Tryz.prog.info? 139).map (fun i => (i.zero, i.size, i.bytes)) = some (some (.int .i8 0), 1, 1) := by kernel_rfl
theorem Tryz.inf102 : (Tryz.prog.info? 102).map (fun i => (i.zero, i.size, i.bytes)) = some (some (.int .u32 0), 1, 4) := by kernel_rfl
theorem Tryz.inf49 : (Tryz.prog.info? 49).map (fun i => (i.zero, i.size, i.bytes)) = some (some (.slice none 0 0), 1, 24) := by kernel_rfl
theorem Tryz.inf28 : (Tryz.prog.info? 28).map (fun i => (i.zero, i.size, i.bytes)) = some (some (.slice none 0 0), 1, 24) := by kernel_rfl
theorem Tryz.inf136 : (Tryz.prog.info? 136).map (fun i => (i.zero, i.size, i.bytes)) = some (some (.slice none 0 0), 1, 24) := by kernel_rfl

theorem make_int {T E : TypeId} {k : IntKind} {bytes : Nat} (ht : Tryz.prog.underlying T = some (.slice E)) (hi : (Tryz.prog.info? E).map (fun i => (i.zero, i.size, i.bytes)) = some (some (.int k 0), 1, bytes))
    (hB : bytes ≤ 8) (l c : Int) (h0 : 0 ≤ l) (h1 : l ≤ c) (h2 : c ≤ 4000000000) (w : World) :
    (Instr.makeSlice T (.int .i64 l) (.int .i64 c)).run Tryz.prog w = .ok (.slice (some ⟨w.heap.size, 0, none⟩) l.toNat c.toNat) (w.alloc (.cells (irow k (zs c.toNat)) E)) := by
  obtain ⟨i, h, hz, hs, hb⟩ := info_parts hi
  have hb8 : (i.bytes : Int) ≤ 8 := by omega
  have : (i.bytes : Int) * c ≤ 8 * 4000000000 := Int.mul_le_mul hb8 h2 (by omega) (by omega)
  rw [run_make w T E i _ ht h hz .i64 .i64 l c h0 h1 (by omega) (by omega), hs, Nat.mul_one, show (Value.int k 0).cells = #[Value.int k 0] from rfl, madeCells_int]
theorem make28 (c : Int) (h1 : 0 ≤ c) (h2 : c ≤ 4000000000) (w : World) :
    (Instr.makeSlice 28 (.int .i64 c) (.int .i64 c)).run Tryz.prog w = .ok (.slice (some ⟨w.heap.size, 0, none⟩) c.toNat c.toNat) (w.alloc (.cells (irow .i64 (zs c.toNat)) 3)) :=
  make_int Tryz.underlying28 Tryz.inf3 (by omega) c c h1 (by omega) h2 w
theorem make49 (l c : Int) (h0 : 0 ≤ l) (h1 : l ≤ c) (h2 : c ≤ 4000000000) (w : World) :
    (Instr.makeSlice 49 (.int .i64 l) (.int .i64 c)).run Tryz.prog w = .ok (.slice (some ⟨w.heap.size, 0, none⟩) l.toNat c.toNat) (w.alloc (.cells (irow .u8 (zs c.toNat)) 5)) :=
  make_int Tryz.underlying49 Tryz.inf5 (by omega) l c h0 h1 h2 w
theorem make136 (c : Int) (h1 : 0 ≤ c) (h2 : c ≤ 4000000000) (w : World) :
    (Instr.makeSlice 136 (.int .i64 c) (.int .i64 c)).run Tryz.prog w = .ok (.slice (some ⟨w.heap.size, 0, none⟩) c.toNat c.toNat) (w.alloc (.cells (irow .i8 (zs c.toNat)) 139)) :=
  make_int Tryz.underlying136 Tryz.inf139 (by omega) c c h1 (by omega) h2 w
theorem make99 (c : Int) (h1 : 0 ≤ c) (h2 : c ≤ 4000000000) (w : World) :
    (Instr.makeSlice 99 (.int .i64 c) (.int .i64 c)).run Tryz.prog w = .ok (.slice (some ⟨w.heap.size, 0, none⟩) c.toNat c.toNat) (w.alloc (.cells (irow .u32 (zs c.toNat)) 102)) :=
  make_int Tryz.underlying99 Tryz.inf102 (by omega) c c h1 (by omega) h2 w
end Go.Proofs.YtcnallabiffemaaGreatDoor
