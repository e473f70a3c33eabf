/- The bytes of a plain text (range over a string). -/
import Derived.Test.YtcnallabiffemaaGreatDoorG9
import Derived.Lib.OthersKept
set_option linter.unusedVariables false
set_option linter.unusedSimpArgs false
namespace Go.Proofs.YtcnallabiffemaaGreatDoor
open Go.RowKit

def txt (s : ByteArray) : List Nat := s.toList.map UInt8.toNat
theorem Own.iterAt {w : World} {base : Nat} {k : IntKind} {T : TypeId} {v : Value} {xs : List Nat} (h : Own w base k T v xs) {ib pos pos' : Nat} {s : ByteArray} (hi : w.heap[ib]? = some (.stringIter s pos)) :
    Own (w.iterAt ib s pos') base k T v xs := by
  refine h.of_block fun g hg => Lib.iterAt_other w ib g s pos' ?_
  intro e
  obtain ⟨cs, h1⟩ := h.tag g hg
  rw [e, hi] at h1
  cases h1

theorem keep_iter {wA w' : World} {ib base : Nat} {s : ByteArray} {pos : Nat} {o : Obj} {v : Value} {xs : List Nat} (hi : wA.heap[ib]? = some (.stringIter s pos)) (ho : Own wA base .u8 5 v xs) (hg : (wA.alloc o).grownBy w' v.ownBlock) :
    w'.heap[ib]? = some (.stringIter s pos) := by
  have hlt := lt_of_some hi
  refine (hg.block ib (by simp; omega) ?_).trans ((Below.heap_alloc _ _ _ hlt).trans hi)
  intro e
  obtain ⟨cs, h1⟩ := ho.tag ib e.symm
  rw [hi] at h1; cases h1

set_option maxRecDepth 100000 in
set_option maxHeartbeats 4000000 in
theorem zz_calls {w : World} {s : ByteArray} (xs : List Nat) (hxl : xs.length = s.size) (hx : ∀ k (h : k < s.size), (s[k]'h).toNat = xs.getD k 0) (ha : ∀ k, xs.getD k 0 < 128) (hs : s.size ≤ 5000) (h1 : 1 ≤ s.size) :
    Calls Tryz.prog 126 #[.int .i64 1, .string s] w (HighPost xs w) := by
  go_enter Tryz.func126, Tryz.ntmps126
  go_wp2
  go_loopw [6] (fun v wr => ∃ k : Nat, k ≤ s.size ∧ Hid (Own wr w.heap.size .u8 5 v (xs.take k)) ∧ wr.heap[w.heap.size]? = some (.stringIter s k) ∧ Hid (Below w.heap.size w wr)) (fun _ wr => s.size - wr.iterPos w.heap.size)
  case atStart => exact ⟨0, by omega, Own.nil _ _ _ _, World.iter_heap w s 0, (Below.refl _ _).alloc (Nat.le_refl _) _⟩
  case round =>
    obtain ⟨k, hk, ho, hit, hb⟩ := hrel
    by_cases hlt : k < s.size
    · have hnx : ∀ ty, (Instr.next (.pointer (some ⟨w.heap.size, 0, none⟩)) true ty).run Tryz.prog wr = _ := fun ty => Lib.run_next_ascii_at wr w.heap.size s k ty hit hlt (by rw [hx k hlt]; exact ha k)
      have hz := ha k
      rw [hx k hlt] at hnx
      have hoA := ho.out.iterAt hit (pos' := k + 1)
      have hitA := Lib.iterAt_heap wr w.heap.size s k (k + 1) hit
      have hbA := Lib.below_iterAt hb.out (k := w.heap.size) (Nat.le_refl _) s (k + 1)
      generalize wr.iterAt w.heap.size s (k + 1) = wA at *
      have hsn := take_snoc (xs := xs) (k := k) (by omega)
      obtain ⟨z, hzz⟩ : ∃ z, z = xs.getD k 0 := ⟨_, rfl⟩
      rw [← hzz] at hnx hz hsn
      have HSN := Lib.hid hsn
      have OA := Lib.hid hoA
      have IA := Lib.hid hitA
      have BA := Lib.hid hbA
      clear hzz hsn hoA hitA hbA hx
      have hz1 : ¬ (255 : Int) < (z : Int) := by omega
      have hz2 : (z : Int) < 128 := by omega
      go_wp2_with (first | (refine app49 rfl (.tmp 33) (.tmp 36) rfl w.heap.size _ (xs.take k) rfl (OA.out.alloc _) wA.heap.size 1 1 [z] rfl rfl (Bytes.one rfl) (by simp; omega) (by have := BA.out.size; simp; omega) ?_; intro v' w' ho2 hg hne; rw [HSN.out] at ho2; have HO := Lib.hid ho2; have HI := keep_iter IA.out OA.out hg; have HB := Lib.hid ((BA.out.alloc BA.out.size _).grown hg (by have := BA.out.size; simp; omega) (fun g2 e => (OA.out.lt g2 e).1)); clear ho2 hg hne))
      exact ⟨⟨k + 1, by omega, HO, HI, HB⟩, by simp [iterPos_of hit, iterPos_of HI]; omega⟩
    · have hnx : ∀ ty, (Instr.next (.pointer (some ⟨w.heap.size, 0, none⟩)) true ty).run Tryz.prog wr = _ := fun ty => Lib.run_next_end_at wr w.heap.size s k ty hit hlt
      go_wp2
      go_ret2
      have ho' := ho.out
      rw [List.take_of_length_le (by omega)] at ho'
      exact ⟨_, rfl, ho', hb.out⟩
end Go.Proofs.YtcnallabiffemaaGreatDoor
