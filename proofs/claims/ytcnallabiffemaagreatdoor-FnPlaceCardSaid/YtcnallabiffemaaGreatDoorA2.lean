/- SymbolInfo_Lookup without bounds on the size: the first symbol of the table that fits. -/
import Derived.Test.YtcnallabiffemaaGreatDoorA1
set_option linter.unusedVariables false
set_option linter.unusedSimpArgs false
namespace Go.Proofs.YtcnallabiffemaaGreatDoor
open Go.RowKit

theorem alloc_heap (w : World) (o : Obj) : (w.alloc o).heap = w.heap.push o := rfl
theorem allocs_heap (l : List Obj) : ∀ w : World, (allocs w l).heap = w.heap ++ l.toArray := by
  induction l with
  | nil => intro w; simp [allocs]
  | cons o l ih => intro w; rw [allocs, ih, alloc_heap]; simp
theorem allocs_below (l : List Obj) (B : Nat) : ∀ w : World, B ≤ w.heap.size → Below B w (allocs w l) := by
  induction l with
  | nil => intro w _; exact Below.refl _ _
  | cons o l ih => intro w h; exact ((Below.refl _ _).alloc h o).trans (ih _ (by rw [alloc_heap]; simp; omega))

theorem cell_blk {w : World} {b : Nat} {cs : Array Value} {T : TypeId} {fr : Nat × Nat} (h : w.heap[b]? = some (.cells cs T fr)) (o : Nat) : w.cell? ⟨b, o, none⟩ = cs[o]? := by
  simp [World.cell?, h]
theorem frozen_blk {w : World} {b : Nat} {cs : Array Value} {T : TypeId} (h : w.heap[b]? = some (.cells cs T)) (o : Nat) : w.frozen? ⟨b, o, none⟩ = false := by
  simp [World.frozen?, h]

structure SymsAt (w : World) (B : Nat) : Prop where
  ptr : ∀ i, i < 30 → w.cell? ⟨B + 30, i, none⟩ = some (.pointer (some ⟨B + i, 0, none⟩))
  si : ∀ i, i < 30 → w.heap[B + i]? = some (.cells (siOf i) 112)

theorem symbols_at (w : World) : SymsAt ((allocs w symObjs).alloc (.cells (symPtrs w.heap.size) 75)) w.heap.size := by
  have hs : (allocs w symObjs).heap.size = w.heap.size + 30 := by rw [allocs_heap]; simp [symObjs]
  constructor
  · intro i hi
    have : ((allocs w symObjs).alloc (.cells (symPtrs w.heap.size) 75)).heap[w.heap.size + 30]? = some (.cells (symPtrs w.heap.size) 75) := by
      rw [alloc_heap, ← hs]; simp
    rw [cell_blk this]
    simp [symPtrs, hi]
  · intro i hi
    rw [Below.heap_alloc _ _ _ (by omega), allocs_heap, Array.getElem?_append_right (by omega)]
    simp [symObjs, hi]

theorem symbols_calls (w : World) :
    Calls Tryz.prog 71 #[] w fun en w' =>
      en = .returned (.slice (some ⟨w.heap.size + 30, 0, none⟩) 30 30) ∧ SymsAt w' w.heap.size ∧ Below w.heap.size w w' ∧ w'.heap.size = w.heap.size + 31 :=
  (symbols_any w).mono fun e w' ⟨he, hw⟩ => by
    subst hw
    exact ⟨he, symbols_at w, (allocs_below _ _ w (Nat.le_refl _)).alloc (by rw [allocs_heap]; simp) _, by rw [alloc_heap, Array.size_push, allocs_heap]; simp [symObjs]⟩

def rectOf (i : Nat) : Bool := (symTab.getD i (false, 0, 0, 0, 0, 0, 0, 0)).1
def dataOf (i : Nat) : Int := (symTab.getD i (false, 0, 0, 0, 0, 0, 0, 0)).2.1
def fitsSym (data : Int) (shape : Nat) (i : Nat) : Bool := !(shape == 1 && rectOf i) && !(shape == 2 && !rectOf i) && decide (data ≤ dataOf i)
def lookSym (data : Int) (shape : Nat) : Option Nat := (List.range 30).find? (fitsSym data shape)

theorem si_rect {w : World} {b i : Nat} (h : w.heap[b]? = some (.cells (siOf i) 112)) : w.cell? ⟨b, 0, none⟩ = some (.bool (rectOf i)) := by rw [cell_blk h]; rfl
theorem si_data {w : World} {b i : Nat} (h : w.heap[b]? = some (.cells (siOf i) 112)) : w.cell? ⟨b, 1, none⟩ = some (.int .i64 (dataOf i)) := by rw [cell_blk h]; rfl

def LookPost (data : Int) (shape : Nat) (w : World) (e : Ending) (w' : World) : Prop :=
  Below w.heap.size w w' ∧ ((∃ i b, lookSym data shape = some i ∧ e = .returned (.tuple #[.pointer (some ⟨b, 0, none⟩), .nilIface]) ∧ w.heap.size ≤ b ∧ b < w'.heap.size ∧ w'.heap[b]? = some (.cells (siOf i) 112)) ∨
    (lookSym data shape = none ∧ ∃ T v, e = .returned (.tuple #[.pointer none, .iface T v])))

theorem look_some {data : Int} {shape k : Nat} (hk : k < 30) (h : fitsSym data shape k = true) (hl : ∀ j, j < k → fitsSym data shape j = false) : lookSym data shape = some k := by
  unfold lookSym
  rw [List.find?_eq_some_iff_getElem]
  refine ⟨h, k, by simpa using hk, by simp, fun j hj => ?_⟩
  simp [hl j hj]
theorem look_none {data : Int} {shape : Nat} (hl : ∀ j, j < 30 → fitsSym data shape j = false) : lookSym data shape = none := by
  unfold lookSym
  rw [List.find?_eq_none]
  intro j hj
  simp [hl j (by simpa using hj)]

theorem fitsSym0 (data : Int) (k : Nat) : fitsSym data 0 k = decide (data ≤ dataOf k) := by simp [fitsSym]
theorem fitsSym1 (data : Int) (k : Nat) : fitsSym data 1 k = (!rectOf k && decide (data ≤ dataOf k)) := by simp [fitsSym]
theorem fitsSym2 (data : Int) (k : Nat) : fitsSym data 2 k = (rectOf k && decide (data ≤ dataOf k)) := by simp [fitsSym]

set_option maxRecDepth 100000 in
set_option maxHeartbeats 4000000 in
theorem lookup0 (data : Int) (w : World) :
    Calls Tryz.prog 42 #[.int .i64 data, .int .i64 0, .pointer none, .pointer none, .bool true] w (LookPost data 0 w) := by
  go_enter Tryz.func42, Tryz.ntmps42
  go_wp2_with (go_at_call 71; refine (symbols_calls _).mono ?_; rintro e w1 ⟨rfl, hsy, hb, hz⟩)
  have hz' : w.heap.size + 31 ≤ w1.heap.size := by omega
  clear hz
  go_loop [16] (fun i => ∃ k : Nat, k ≤ 30 ∧ i = .int .i64 k ∧ Hid (∀ j, j < k → fitsSym data 0 j = false)) (fun i => 30 - (intOf i).toNat)
  case atStart => exact ⟨0, by omega, rfl, fun j hj => by omega⟩
  case round =>
    obtain ⟨k, hk, rfl, hl⟩ := hrel
    by_cases hlt : k < 30
    · have hc := hsy.ptr k hlt
      have hb0 := hsy.si k hlt
      have c0 := si_rect hb0
      have c1 := si_data hb0
      have hB := Lib.hid hb0
      have hS := Lib.hid hsy
      clear hb0 hsy
      cases hr : rectOf k <;> rw [hr] at c0 <;> have hR := Lib.hid hr <;> clear hr <;> by_cases hd : data ≤ dataOf k
      all_goals go_wp2
      · go_ret2
        refine ⟨hb, .inl ⟨k, _, look_some hlt (by simp [fitsSym0, hR.out, hd]) hl.out, rfl, by omega, by omega, hB.out⟩⟩
      · go_round
        case rel =>
          refine ⟨k + 1, by omega, by go_num, fun j hj => ?_⟩
          rcases Nat.lt_succ_iff_lt_or_eq.1 hj with h | rfl
          · exact hl.out j h
          · simp [fitsSym0, hR.out, hd]
        case measure => simp [intOf]; omega
      · go_ret2
        refine ⟨hb, .inl ⟨k, _, look_some hlt (by simp [fitsSym0, hR.out, hd]) hl.out, rfl, by omega, by omega, hB.out⟩⟩
      · go_round
        case rel =>
          refine ⟨k + 1, by omega, by go_num, fun j hj => ?_⟩
          rcases Nat.lt_succ_iff_lt_or_eq.1 hj with h | rfl
          · exact hl.out j h
          · simp [fitsSym0, hR.out, hd]
        case measure => simp [intOf]; omega
    · go_wp2_with (go_at_call 62; refine (newWE_calls _ _).mono ?_; rintro e w2 ⟨x, rfl, hb2⟩)
      go_ret2
      refine ⟨?_, .inr ⟨look_none fun j hj => hl.out j (by omega), _, _, rfl⟩⟩
      refine Below.trans ?_ (hb2.mono (by simp; omega))
      exact hb.alloc (by omega) _
set_option maxRecDepth 100000 in
set_option maxHeartbeats 4000000 in
theorem lookup1 (data : Int) (w : World) :
    Calls Tryz.prog 42 #[.int .i64 data, .int .i64 1, .pointer none, .pointer none, .bool true] w (LookPost data 1 w) := by
  go_enter Tryz.func42, Tryz.ntmps42
  go_wp2_with (go_at_call 71; refine (symbols_calls _).mono ?_; rintro e w1 ⟨rfl, hsy, hb, hz⟩)
  have hz' : w.heap.size + 31 ≤ w1.heap.size := by omega
  clear hz
  go_loop [16] (fun i => ∃ k : Nat, k ≤ 30 ∧ i = .int .i64 k ∧ Hid (∀ j, j < k → fitsSym data 1 j = false)) (fun i => 30 - (intOf i).toNat)
  case atStart => exact ⟨0, by omega, rfl, fun j hj => by omega⟩
  case round =>
    obtain ⟨k, hk, rfl, hl⟩ := hrel
    by_cases hlt : k < 30
    · have hc := hsy.ptr k hlt
      have hb0 := hsy.si k hlt
      have c0 := si_rect hb0
      have c1 := si_data hb0
      have hB := Lib.hid hb0
      have hS := Lib.hid hsy
      clear hb0 hsy
      cases hr : rectOf k <;> rw [hr] at c0 <;> have hR := Lib.hid hr <;> clear hr <;> by_cases hd : data ≤ dataOf k
      all_goals go_wp2
      · go_ret2
        refine ⟨hb, .inl ⟨k, _, look_some hlt (by simp [fitsSym1, hR.out, hd]) hl.out, rfl, by omega, by omega, hB.out⟩⟩
      · go_round
        case rel =>
          refine ⟨k + 1, by omega, by go_num, fun j hj => ?_⟩
          rcases Nat.lt_succ_iff_lt_or_eq.1 hj with h | rfl
          · exact hl.out j h
          · simp [fitsSym1, hR.out, hd]
        case measure => simp [intOf]; omega
      · go_round
        case rel =>
          refine ⟨k + 1, by omega, by go_num, fun j hj => ?_⟩
          rcases Nat.lt_succ_iff_lt_or_eq.1 hj with h | rfl
          · exact hl.out j h
          · simp [fitsSym1, hR.out, hd]
        case measure => simp [intOf]; omega
      · go_round
        case rel =>
          refine ⟨k + 1, by omega, by go_num, fun j hj => ?_⟩
          rcases Nat.lt_succ_iff_lt_or_eq.1 hj with h | rfl
          · exact hl.out j h
          · simp [fitsSym1, hR.out, hd]
        case measure => simp [intOf]; omega
    · go_wp2_with (go_at_call 62; refine (newWE_calls _ _).mono ?_; rintro e w2 ⟨x, rfl, hb2⟩)
      go_ret2
      refine ⟨?_, .inr ⟨look_none fun j hj => hl.out j (by omega), _, _, rfl⟩⟩
      refine Below.trans ?_ (hb2.mono (by simp; omega))
      exact hb.alloc (by omega) _
set_option maxRecDepth 100000 in
set_option maxHeartbeats 4000000 in
theorem lookup2 (data : Int) (w : World) :
    Calls Tryz.prog 42 #[.int .i64 data, .int .i64 2, .pointer none, .pointer none, .bool true] w (LookPost data 2 w) := by
  go_enter Tryz.func42, Tryz.ntmps42
  go_wp2_with (go_at_call 71; refine (symbols_calls _).mono ?_; rintro e w1 ⟨rfl, hsy, hb, hz⟩)
  have hz' : w.heap.size + 31 ≤ w1.heap.size := by omega
  clear hz
  go_loop [16] (fun i => ∃ k : Nat, k ≤ 30 ∧ i = .int .i64 k ∧ Hid (∀ j, j < k → fitsSym data 2 j = false)) (fun i => 30 - (intOf i).toNat)
  case atStart => exact ⟨0, by omega, rfl, fun j hj => by omega⟩
  case round =>
    obtain ⟨k, hk, rfl, hl⟩ := hrel
    by_cases hlt : k < 30
    · have hc := hsy.ptr k hlt
      have hb0 := hsy.si k hlt
      have c0 := si_rect hb0
      have c1 := si_data hb0
      have hB := Lib.hid hb0
      have hS := Lib.hid hsy
      clear hb0 hsy
      cases hr : rectOf k <;> rw [hr] at c0 <;> have hR := Lib.hid hr <;> clear hr <;> by_cases hd : data ≤ dataOf k
      all_goals go_wp2
      · go_round
        case rel =>
          refine ⟨k + 1, by omega, by go_num, fun j hj => ?_⟩
          rcases Nat.lt_succ_iff_lt_or_eq.1 hj with h | rfl
          · exact hl.out j h
          · simp [fitsSym2, hR.out, hd]
        case measure => simp [intOf]; omega
      · go_round
        case rel =>
          refine ⟨k + 1, by omega, by go_num, fun j hj => ?_⟩
          rcases Nat.lt_succ_iff_lt_or_eq.1 hj with h | rfl
          · exact hl.out j h
          · simp [fitsSym2, hR.out, hd]
        case measure => simp [intOf]; omega
      · go_ret2
        refine ⟨hb, .inl ⟨k, _, look_some hlt (by simp [fitsSym2, hR.out, hd]) hl.out, rfl, by omega, by omega, hB.out⟩⟩
      · go_round
        case rel =>
          refine ⟨k + 1, by omega, by go_num, fun j hj => ?_⟩
          rcases Nat.lt_succ_iff_lt_or_eq.1 hj with h | rfl
          · exact hl.out j h
          · simp [fitsSym2, hR.out, hd]
        case measure => simp [intOf]; omega
    · go_wp2_with (go_at_call 62; refine (newWE_calls _ _).mono ?_; rintro e w2 ⟨x, rfl, hb2⟩)
      go_ret2
      refine ⟨?_, .inr ⟨look_none fun j hj => hl.out j (by omega), _, _, rfl⟩⟩
      refine Below.trans ?_ (hb2.mono (by simp; omega))
      exact hb.alloc (by omega) _

theorem lookup_calls (data : Int) (shape : Nat) (hs : shape < 3) (w : World) :
    Calls Tryz.prog 42 #[.int .i64 data, .int .i64 shape, .pointer none, .pointer none, .bool true] w (LookPost data shape w) := by
  rcases (by omega : shape = 0 ∨ shape = 1 ∨ shape = 2) with rfl | rfl | rfl
  · exact lookup0 data w
  · exact lookup1 data w
  · exact lookup2 data w
end Go.Proofs.YtcnallabiffemaaGreatDoor
