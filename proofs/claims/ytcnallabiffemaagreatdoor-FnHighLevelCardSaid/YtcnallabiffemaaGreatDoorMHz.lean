import Derived.Test.YtcnallabiffemaaGreatDoorMHw5
import Derived.Test.YtcnallabiffemaaGreatDoorTie
import Derived.Test.YtcnallabiffemaaGreatDoorCards
import Derived.ProofKit
import Derived.OpenShut
import Derived.Lay
import Derived.ChangeMaps5
import Derived.SevenTiedAt
import Derived.Stop.Joined

/- FnHighLevel: the statement. For every input the law's call returns true, and the input reads as it did. -/
set_option linter.unusedVariables false
set_option linter.unusedSimpArgs false
namespace Go.Proofs.YtcnallabiffemaaGreatDoor
open Go.ChangeShapes Go.WideShapes Go.ChangeAt Go.RowKit

theorem fnHigh_any (s : ByteArray) (hm : s.size ≤ maxLen) (n : Int) (w : World) : Calls Tryz.prog 5 #[.string s, .int .i64 n] w (TruePost w) := by
  unfold maxLen at hm
  by_cases h1 : 2147483647 < s.size
  · exact fnHigh_big h1 (by omega) w
  · by_cases h2 : FitsP s n
    · obtain ⟨sh, rfl⟩ := Int.eq_ofNat_of_zero_le (a := n) h2.2.2.2.1
      exact fnHigh_in h2 w
    · exact fnHigh_out h2 (by omega) w

theorem ownKnH : ownKnob Tryz.prog.godebug = none := by kernel_rfl
def laidLH : List (String × DataW Unit) := [("unicode/utf8.acceptRanges", Rows.laid_unicode_utf8_acceptRanges), ("unicode/utf8.first", Rows.laid_unicode_utf8_first)]

set_option maxRecDepth 100000 in
theorem fnHighLevel_lifted (os : Os) (started : os.Started) (H : Type) (enc : TypeId × Value → H) :
    ReturnsInHanded {} Tryz.checked os 5 .any (fun w args => (Rows.fnHighLevelSpec.pre enc Tryz.prog Tryz.f5 [] false w args ∧ laidMetH Tryz.prog laidLH w) ∧ sizedMet enc Tryz.prog Tryz.f5 (OpenSpec.ofChange Rows.fnHighLevelSpec) false w args)
      (Rows.fnHighLevelSpec.post enc Tryz.prog Tryz.f5 false true false false) := by
  refine returnsInHanded_of_change_and (C := Tryz.checked) (X := fun w _ => laidMetH Tryz.prog laidLH w) (fun _ _ _ hh h => h.of_heap hh) ownKnH started (by kernel_rfl) Tryz.func5
    (ChangeSpec.witness_shaped (enc := enc) (C := Tryz.checked) (os := os) (X := fun w _ => laidMetH Tryz.prog laidLH w) false (World.laidAll Tryz.prog os laidLH) #[.string ⟨#[]⟩, .int .i64 0] 8 (World.laidAll_os _ _ _)
      (World.shaped_of_ZipB (by kernel_rfl) (by kernel_rfl)) (by kernel_rfl) (by kernel_rfl) (by kernel_rfl)
      (by rw [MakeChecks.laidMetH_plain _ _ _ (by kernel_rfl)]; exact laidMet_laidAll _ (by kernel_rfl) (by kernel_rfl))) ?_
  intro W base args ds gs before hval0 hW _ _ hL _
  have hval : ∀ (j : Nat) t v, Tryz.f5.params[j]? = some t → args[j]? = some v → Value.okWide Tryz.prog W .any base t v := hval0
  have hW' := hW
  obtain ⟨p, q, hA0, hV, rfl, _, _⟩ := hW
  have hA : DataW.TrodAll enc Tryz.prog W 0 (fun _ => true) true Tryz.f5.params.toList args.toList ds p := hA0
  rw [Tryz.params5] at hA hval
  obtain ⟨v0, v1, d0, d1, p0, p1, rfl, rfl, rfl, h0, h1⟩ := trodAll_two hA
  obtain ⟨rfl, rfl⟩ := trodVars_none hV
  obtain ⟨x, rfl, rfl, rfl, hxm⟩ := Go.ChangeMaps.open_string Tryz.underlying9 (hval 0 9 v0 rfl rfl) h0
  obtain ⟨y, rfl, rfl, rfl, wy⟩ := open_int Tryz.underlying3 (hval 1 3 v1 rfl rfl) h1
  simp only [List.append_nil] at hW'
  refine (fnHigh_any x hxm y W).mono fun e W' ⟨he, hb⟩ => ?_
  subst he
  exact ⟨_, rfl, _, _, _, [], [], [], hW', trodAll_mk1 (shut_bool Tryz.underlying4 _), trodAll_mk2 (Go.ChangeMaps.shut_string Tryz.underlying9 hxm) (shut_int Tryz.underlying3 wy), rfl, hb.frame _, fun h => by cases h⟩

theorem fnHighLevel_holds : Rows.FnHighLevelSaid :=
  OpenClaim.holds_of_wide 5 Tryz.f5 rfl rfl rfl rfl rfl rfl rfl ⟨rfl, rfl, rfl, rfl, rfl⟩ rfl rfl rfl rfl rfl (by kernel_rfl) Tryz.func5 (by kernel_rfl)
    (of_decide_eq_true (by kernel_rfl)) (by unfold Func.isWrapper; first | (rw [if_pos (by decide +kernel)]; kernel_rfl) | (rw [if_neg (by decide +kernel)]; exact ⟨rfl, rfl⟩))
    (fun os started H enc _ => fnHighLevel_lifted os started H enc)

theorem fnHighLevel_card : Rows.FnHighLevelCardSaid :=
  Claim7.holds_tied_plain_at .later [] [.data, .pinned] true (true, "3c02546d83fb1081b50c595e10acd152b50cfb822275c845e90c4a4ec066cdf2") false
    fnHighLevel_holds (fun _ h => by cases h) (by kernel_rfl) (fun _ h => by cases h) fnHighLevel_row_tie rfl ⟨rfl, rfl⟩ (by kernel_rfl) rfl
    (fun f fn hf hfn => by
      obtain rfl : f = 5 := Option.some.inj ((show Tryz.prog.funcNamed "zxdatamatrix/laws.FnHighLevel" = some 5 by kernel_rfl).symm.trans hf) |>.symm
      obtain rfl : fn = Tryz.f5 := (Option.some.inj (Tryz.func5.symm.trans hfn)).symm
      exact ⟨by kernel_rfl, fun j t ht => by
        rw [Tryz.params5] at ht
        have hm : t ∈ [9, 3] := by simpa using Array.mem_of_getElem? ht
        have hall : ([9, 3].all fun u => !Tryz.prog.wantsStandIn u) = true := by kernel_rfl
        exact (show Tryz.prog.wantsStandIn t = false by simpa using List.all_eq_true.1 hall t hm)⟩)
    (by kernel_rfl)
#print axioms fnHighLevel_card
end Go.Proofs.YtcnallabiffemaaGreatDoor
