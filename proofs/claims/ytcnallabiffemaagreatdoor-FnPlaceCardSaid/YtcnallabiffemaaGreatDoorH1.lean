/- The shape of a symbol; impl.SymbolFor. -/
import Derived.Test.YtcnallabiffemaaGreatDoorG17
set_option linter.unusedVariables false
set_option linter.unusedSimpArgs false
namespace Go.Proofs.YtcnallabiffemaaGreatDoor
open Go.RowKit

set_option maxHeartbeats 1000000 in
theorem shaped_calls (r c d a n e b sh : Nat) (hs : sh < 3) (w : World) :
    Calls Tryz.prog 13 #[.agg #[.int .i64 r, .int .i64 c, .int .i64 d, .int .i64 a, .int .i64 n, .int .i64 e, .int .i64 b], .int .i64 sh] w fun en w' => en = .returned (.bool (shapedB r c sh)) ∧ Below w.heap.size w w' := by
  by_cases hrc : r = c
  · subst hrc
    rcases (by omega : sh = 0 ∨ sh = 1 ∨ sh = 2) with rfl | rfl | rfl
    all_goals
      go_enter Tryz.func13, Tryz.ntmps13
      go_wp2
      go_ret
      exact ⟨by simp [shapedB], (Below.refl _ _).alloc (Nat.le_refl _) _⟩
  · have h1 : ((r : Int) == (c : Int)) = false := by rw [beq_eq_false_iff_ne]; omega
    rcases (by omega : sh = 0 ∨ sh = 1 ∨ sh = 2) with rfl | rfl | rfl
    all_goals
      go_enter Tryz.func13, Tryz.ntmps13
      go_wp2
      go_ret
      exact ⟨by simp [shapedB, hrc], (Below.refl _ _).alloc (Nat.le_refl _) _⟩

def SymForPost (o : Option Nat) (w : World) (e : Ending) (w' : World) : Prop :=
  (match o with
    | some i => e = .returned (.tuple #[.int .i64 (shOf i), .int .i64 (swOf i), .bool true])
    | none => e = .returned (.tuple #[.int .i64 0, .int .i64 0, .bool false])) ∧ Below w.heap.size w w'
theorem lookSym_lt {d : Int} {sh i : Nat} (h : lookSym d sh = some i) : i < 30 := by
  have := List.mem_of_find?_eq_some h
  simpa using this
theorem lookN_calls {data : Int} {shape : Nat} (hs : shape < 3) (hl : lookSym data shape = none) (w : World) :
    Calls Tryz.prog 42 #[.int .i64 data, .int .i64 shape, .pointer none, .pointer none, .bool true] w fun e w' =>
      ∃ T v, e = .returned (.tuple #[.pointer none, .iface T v]) ∧ Below w.heap.size w w' := by
  refine (lookup_calls data shape hs w).mono ?_
  rintro e w' ⟨hb, hp⟩
  rw [hl] at hp
  rcases hp with ⟨j, b, hj, _⟩ | ⟨_, T, v, he⟩
  · cases hj
  · exact ⟨T, v, he, hb⟩

set_option maxRecDepth 100000 in
set_option maxHeartbeats 1000000 in
theorem symFor_calls (d : Int) (sh : Nat) (hs : sh < 3) (w : World) : Calls Tryz.prog 18 #[.int .i64 d, .int .i64 sh] w (SymForPost (lookSym d sh) w) := by
  cases hl : lookSym d sh with
  | some i =>
    have hi := lookSym_lt hl
    have HL := Lib.hid hl
    clear hl
    go_enter Tryz.func18, Tryz.ntmps18
    go_wp2_with (first | (go_at_call 27; refine (shapesOk_calls hs _).mono ?_; rintro e w1 ⟨rfl, hb⟩; have HB := Lib.hid hb; clear hb) | (go_at_call 42; refine (lookI_calls hs HL.out _).mono ?_; rintro e w2 ⟨b, rfl, hbl, hsi, hb2⟩; have HSI := Lib.hid hsi; have HB2 := Lib.hid hb2; clear hbl hsi hb2) | (go_at_call 43; refine (sh_calls b i _ hi HSI.out).mono ?_; rintro e w3 ⟨rfl, n3, rfl⟩) | (go_at_call 44; refine (sw_calls b i _ hi (blk_drewN HSI.out)).mono ?_; rintro e w4 ⟨rfl, n4, rfl⟩))
    go_ret3
    exact ⟨rfl, below_dr (HB.out.trans (HB2.out.mono HB.out.size)) _⟩
  | none =>
    have HL := Lib.hid hl
    clear hl
    go_enter Tryz.func18, Tryz.ntmps18
    go_wp2_with (first | (go_at_call 27; refine (shapesOk_calls hs _).mono ?_; rintro e w1 ⟨rfl, hb⟩; have HB := Lib.hid hb; clear hb) | (go_at_call 42; refine (lookN_calls hs HL.out _).mono ?_; rintro e w2 ⟨T, v, rfl, hb2⟩; have HB2 := Lib.hid hb2; clear hb2))
    go_ret3
    exact ⟨rfl, HB.out.trans (HB2.out.mono HB.out.size)⟩

/-- the best of the first symbols -/
def bestTo (d sh : Nat) : Nat → Option Nat
  | 0 => none
  | k + 1 =>
    if decide (d ≤ syN k 4) && shapedB (syN k 0) (syN k 1) sh && (match bestTo d sh k with | none => true | some j => decide (syN k 4 < syN j 4)) then some k else bestTo d sh k
theorem best_look : ∀ sh, sh < 3 → ∀ d, d < 1304 → (lookSym ((d + 1 : Nat) : Int) sh).map (fun i => (shOf i, swOf i)) = (bestTo (d + 1) sh 29).map (fun j => ((syN j 0 : Int), (syN j 1 : Int))) := by decide +kernel
end Go.Proofs.YtcnallabiffemaaGreatDoor
