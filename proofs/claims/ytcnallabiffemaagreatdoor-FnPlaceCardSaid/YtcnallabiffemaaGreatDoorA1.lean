/- The encoder's table of symbols, in memory. -/
import Derived.Test.YtcnallabiffemaaGreatDoorA01
set_option linter.unusedVariables false
set_option linter.unusedSimpArgs false
namespace Go.Proofs.YtcnallabiffemaaGreatDoor
open Go.RowKit

/-- rectangular, data, check, width, height of a region, regions, data and check of a block -/
def symTab : List (Bool × Int × Int × Int × Int × Int × Int × Int) := [
  (false, 3, 5, 8, 8, 1, 3, 5), (false, 5, 7, 10, 10, 1, 5, 7), (true, 5, 7, 16, 6, 1, 5, 7), (false, 8, 10, 12, 12, 1, 8, 10),
  (true, 10, 11, 14, 6, 2, 10, 11), (false, 12, 12, 14, 14, 1, 12, 12), (true, 16, 14, 24, 10, 1, 16, 14),
  (false, 18, 14, 16, 16, 1, 18, 14), (false, 22, 18, 18, 18, 1, 22, 18), (true, 22, 18, 16, 10, 2, 22, 18), (false, 30, 20, 20, 20, 1, 30, 20),
  (true, 32, 24, 16, 14, 2, 32, 24), (false, 36, 24, 22, 22, 1, 36, 24), (false, 44, 28, 24, 24, 1, 44, 28), (true, 49, 28, 22, 14, 2, 49, 28),
  (false, 62, 36, 14, 14, 4, 62, 36), (false, 86, 42, 16, 16, 4, 86, 42), (false, 114, 48, 18, 18, 4, 114, 48), (false, 144, 56, 20, 20, 4, 144, 56), (false, 174, 68, 22, 22, 4, 174, 68),
  (false, 204, 84, 24, 24, 4, 102, 42), (false, 280, 112, 14, 14, 16, 140, 56), (false, 368, 144, 16, 16, 16, 92, 36), (false, 456, 192, 18, 18, 16, 114, 48),
  (false, 576, 224, 20, 20, 16, 144, 56), (false, 696, 272, 22, 22, 16, 174, 68), (false, 816, 336, 24, 24, 16, 136, 56), (false, 1050, 408, 18, 18, 36, 175, 68),
  (false, 1304, 496, 20, 20, 36, 163, 62), (false, 1558, 620, 22, 22, 36, -1, 62)]

def siOf (i : Nat) : Array Value :=
  let s := symTab.getD i (false, 0, 0, 0, 0, 0, 0, 0)
  siC s.1 s.2.1 s.2.2.1 s.2.2.2.1 s.2.2.2.2.1 s.2.2.2.2.2.1 s.2.2.2.2.2.2.1 s.2.2.2.2.2.2.2 (if i = 29 then 145 else 143) (if i = 29 then 146 else 144)

def allocs (w : World) : List Obj → World
  | [] => w
  | o :: l => allocs (w.alloc o) l

def symObjs : List Obj := (List.range 30).map fun i => .cells (siOf i) 112
def symPtrs (B : Nat) : Array Value := ((List.range 30).map fun i => .pointer (some ⟨B + i, 0, none⟩)).toArray

set_option maxRecDepth 100000 in
set_option maxHeartbeats 4000000 in
theorem symbols_any (w : World) :
    Calls Tryz.prog 71 #[] w fun en w' =>
      en = .returned (.slice (some ⟨w.heap.size + 30, 0, none⟩) 30 30) ∧ (allocs w symObjs).alloc (.cells (symPtrs w.heap.size) 75) = w' := by
  go_enter Tryz.func71, Tryz.ntmps71
  go_wp2_with (first | (go_at_call 121; refine (newSI _ _ _ _ _ _ _).mono ?_; rintro e w' ⟨rfl, rfl⟩) | (go_at_call 122; refine (newRS _ _ _ _ _ _ _ _ _).mono ?_; rintro e w' ⟨rfl, rfl⟩) | (go_at_call 123; refine (new144 _).mono ?_; rintro e w' ⟨rfl, rfl⟩))
  go_ret
  exact ⟨rfl, rfl⟩
end Go.Proofs.YtcnallabiffemaaGreatDoor
