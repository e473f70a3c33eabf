/- A new context, behind the text's bytes. -/
import Derived.Test.YtcnallabiffemaaGreatDoorG7
set_option linter.unusedVariables false
set_option linter.unusedSimpArgs false
namespace Go.Proofs.YtcnallabiffemaaGreatDoor
open Go.RowKit

theorem and255 {z : Nat} (hz : z < 256) : Go.bits .and .u8 (z : Int) 255 = (z : Int) := by
  rw [show (255 : Int) = ((255 : Nat) : Int) from rfl, u8_and_nat z 255 hz (by omega)]
  congr 1
  exact Nat.and_two_pow_sub_one_of_lt_two_pow (n := 8) hz

def NewCPost (msg : List Nat) (w : World) (e : Ending) (w' : World) : Prop :=
  ∃ base c mb mcap v, e = .returned (.tuple #[.pointer (some ⟨c, 0, none⟩), .nilIface]) ∧ Ctx w w' base c mb mcap 0 msg v [] 0 (-1) none 0

theorem take_snoc {xs : List Nat} {k : Nat} (h : k < xs.length) : xs.take k ++ [xs.getD k 0] = xs.take (k + 1) := by
  rw [List.take_add_one, List.getD_eq_getElem?_getD, List.getElem?_eq_getElem h]; rfl

set_option maxRecDepth 100000 in
set_option maxHeartbeats 4000000 in
theorem newC_calls {w : World} {s : ByteArray} {msg : List Nat} (h126 : Calls Tryz.prog 126 #[.int .i64 1, .string s] w (HighPost msg w)) (h1 : 1 ≤ msg.length) (hm : msg.length ≤ 5000) (hsm : Small msg) :
    Calls Tryz.prog 82 #[.string s] w (NewCPost msg w) := by
  go_enter Tryz.func82, Tryz.ntmps82
  have hmk0 := fun w => make49 0 (msg.length : Int) (by omega) (by omega) (by omega) w
  rw [Int.toNat_natCast] at hmk0
  go_wp2_with (first | (go_at_call 126; refine (h126.mono fun e w' ⟨v, k1, k2, k3⟩ => RowPost.of h1 k1 k2 k3).mono ?_; rintro e w1 ⟨g1, cap1, rfl, o1, b1⟩; have O1 := Lib.hid o1; have B1 := Lib.hid b1; clear o1 b1))
  go_loopw [6, 7] (fun sb i wr => ∃ k : Nat, k ≤ msg.length ∧ i = .int .i64 k ∧ ∃ g cap, sb = .slice (some ⟨g, 0, none⟩) k cap ∧ Hid (Own wr w1.heap.size .u8 5 (.slice (some ⟨g, 0, none⟩) k cap) (msg.take k)) ∧ Hid (Below w1.heap.size w1 wr)) (fun _ i _ => msg.length - (intOf i).toNat)
  case atStart =>
    refine ⟨0, by omega, rfl, w1.heap.size, msg.length, rfl, ?_, (Below.refl _ _).alloc (Nat.le_refl _) _⟩
    exact Own.of_room (c := msg.length) (by rw [alloc_heap]; exact Array.getElem?_push_size) (by simp) (Nat.le_refl _) (by simp only [maxLen]; omega)
  case round =>
    obtain ⟨k, hk, rfl, g, cap, rfl, ho, hb⟩ := hrel
    by_cases hlt : k < msg.length
    · have cx := (O1.out.below hb.out O1.out.1).2 k hlt
      have hz := hsm k
      have hsn := take_snoc hlt
      obtain ⟨z, hzz⟩ : ∃ z, z = msg.getD k 0 := ⟨_, rfl⟩
      rw [← hzz] at cx hz hsn
      have ha := and255 hz
      have HSN := Lib.hid hsn
      clear hzz hsn
      have hki : (k : Int) < (msg.length : Int) := by omega
      have hlk : (msg.take k).length = k := by simp; omega
      have HLK := Lib.hid hlk
      clear hlk
      go_wp2_with (first | (refine app49 rfl (.tmp 36) (.tmp 38) rfl w1.heap.size _ (msg.take k) rfl (ho.out.alloc _) wr.heap.size 1 1 [z] rfl rfl (Bytes.one rfl) (by simp; omega) (by have := hb.out.size; simp; omega) ?_; intro v' w' ho2 hg hne; rw [HSN.out] at ho2; obtain ⟨gx, capx, hv⟩ := ho2.slice (by simp; omega); rw [List.length_take, Nat.min_eq_left (by omega)] at hv; subst hv; have HO := Lib.hid ho2; have HB := Lib.hid ((hb.out.alloc hb.out.size _).grown hg (by have := hb.out.size; simp; omega) (fun g2 e => (ho.out.lt g2 e).1)); clear ho2 hg hne))
      exact ⟨⟨k + 1, by omega, by go_num, gx, capx, rfl, HO, HB⟩, by simp [intOf]; omega⟩
    · obtain rfl : msg.length = k := by omega
      have hmk1 := make49 0 (msg.length : Int) (by omega) (by omega) (by omega) wr
      rw [Int.toNat_natCast] at hmk1
      go_wp2
      go_ret2
      have ho' := ho.out
      rw [List.take_length] at ho'
      have hz1 := B1.out.size
      have hz2 := hb.out.size
      have hbw : Below w.heap.size w wr := B1.out.trans (hb.out.mono hz1)
      refine ⟨wr.heap.size, wr.heap.size + 1, g, cap, .slice (some ⟨wr.heap.size, 0, none⟩) 0 msg.length, rfl, new_last (by simp) _, ?_, (ho'.bytes.alloc _).alloc _, (hbw.alloc (by omega) _).alloc (by simp; omega) _, by omega, by omega, (ho'.lt g rfl).2, by simp; omega, fun i b e => by cases e⟩
      exact (Own.of_room (c := msg.length) (by rw [alloc_heap]; exact Array.getElem?_push_size) (by simp) (Nat.le_refl _) (by simp only [maxLen]; omega)).alloc _
end Go.Proofs.YtcnallabiffemaaGreatDoor
