/- Symbol table of the encoder: what NewSymbolInfoRS, NewSymbolInfo, NewDataMatrixSymbolInfo144 make, in memory. -/
import Derived.Test.YtcnallabiffemaaGreatDoorProg
import Derived.WalkKit
import Derived.WalkSpells
import Derived.WalkLawsBesides
import Derived.RegionTactic
import Derived.LoopTactic
import Derived.BigQuiet
import Derived.Deep.QuietTactic
import Derived.Lib.Hide
import Derived.Laws.EntriesVeiled
set_option linter.unusedVariables false
set_option linter.unusedSimpArgs false
namespace Go.Proofs.YtcnallabiffemaaGreatDoor
open Go.RowKit

def siC (r : Bool) (d e mw mh dr rd re : Int) (f g : Nat) : Array Value :=
  #[.bool r, .int .i64 d, .int .i64 e, .int .i64 mw, .int .i64 mh, .int .i64 dr, .int .i64 rd, .int .i64 re, .func (.func f) #[] #[], .func (.func g) #[] #[]]

theorem newRS (r : Bool) (d e mw mh dr rd re : Int) (w : World) :
    Calls Tryz.prog 122 #[.bool r, .int .i64 d, .int .i64 e, .int .i64 mw, .int .i64 mh, .int .i64 dr, .int .i64 rd, .int .i64 re] w fun en w' =>
      en = .returned (.pointer (some ⟨w.heap.size, 0, none⟩)) ∧ w.alloc (.cells (siC r d e mw mh dr rd re 143 144) 112) = w' := by
  go_enter Tryz.func122, Tryz.ntmps122
  go_wp2
  go_ret
  exact ⟨rfl, rfl⟩

theorem newSI (r : Bool) (d e mw mh dr : Int) (w : World) :
    Calls Tryz.prog 121 #[.bool r, .int .i64 d, .int .i64 e, .int .i64 mw, .int .i64 mh, .int .i64 dr] w fun en w' =>
      en = .returned (.pointer (some ⟨w.heap.size, 0, none⟩)) ∧ w.alloc (.cells (siC r d e mw mh dr d e 143 144) 112) = w' := by
  go_enter Tryz.func121, Tryz.ntmps121
  go_wp2_with (go_at_call 122; refine (newRS _ _ _ _ _ _ _ _ _).mono ?_; rintro e w' ⟨rfl, rfl⟩)
  go_ret
  exact ⟨rfl, rfl⟩

theorem new144 (w : World) :
    Calls Tryz.prog 123 #[] w fun en w' =>
      en = .returned (.pointer (some ⟨w.heap.size, 0, none⟩)) ∧ w.alloc (.cells (siC false 1558 620 22 22 36 (-1) 62 145 146) 112) = w' := by
  go_enter Tryz.func123, Tryz.ntmps123
  go_wp2_with (go_at_call 122; refine (newRS _ _ _ _ _ _ _ _ _).mono ?_; rintro e w' ⟨rfl, rfl⟩)
  go_ret
  exact ⟨rfl, rfl⟩
end Go.Proofs.YtcnallabiffemaaGreatDoor
