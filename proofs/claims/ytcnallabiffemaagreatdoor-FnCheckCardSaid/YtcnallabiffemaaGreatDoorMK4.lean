import Derived.Test.YtcnallabiffemaaGreatDoorMK3
import Derived.Test.YtcnallabiffemaaGreatDoorTie
import Derived.Test.YtcnallabiffemaaGreatDoorCards
import Derived.ProofKit
import Derived.OpenShut
import Derived.ChangeSlices
import Derived.Carry
import Derived.Lay
import Derived.SevenTiedAt
import Derived.Stop.Joined

/- FnCheck: the statement. For every input the law's call returns true, and the input reads as it did. -/
namespace Go.Proofs.YtcnallabiffemaaGreatDoor
open Go.ChangeShapes Go.WideShapes Go.ChangeAt Go.RowKit

theorem fnChk_any {a : Addr} {len cap : Nat} {zs : List Int} (s : Int) {w : World} (hl : len ≤ cap) (hm : cap ≤ maxLen) (hz : len ≤ zs.length) (hc : ∀ i, i < zs.length → w.cell? (a.add i) = some (.int .i64 (zs.getD i 0))) :
    Calls Tryz.prog 7 #[.slice (some a) len cap, .int .i64 s] w (TruePost w) := by
  unfold maxLen at hm
  by_cases h1 : 2147483647 < len
  · exact fnChk_big _ _ _ s h1 (by omega) w
  · by_cases h2 : len = 0 ∨ 1000 < len
    · exact fnChk_out _ _ _ s h2 (by omega) w
    · obtain ⟨b, off, spot⟩ := a
      have hspot : spot = none := by simpa [Addr.add] using World.cell?_spot (hc 0 (by omega))
      subst hspot
      have hlen : (zs.take len).length = len := by simp; omega
      rw [← hlen]
      refine fnChk_in s (fun i hi => ?_) (by omega) (by omega)
      rw [hlen] at hi
      rw [← add_plain, hc i (by omega)]
      simp [List.getD_eq_getElem?_getD, List.getElem?_take, hi]

def laidLC : List (String × DataW Unit) := [("unicode/utf8.acceptRanges", Rows.laid_unicode_utf8_acceptRanges), ("unicode/utf8.first", Rows.laid_unicode_utf8_first)]
theorem ownKnC : ownKnob Tryz.prog.godebug = none := by kernel_rfl
theorem laidOutC : laidOutB Tryz.prog = true := by kernel_rfl
theorem cells3C : Tryz.prog.cellsOf 3 = 1 := by kernel_rfl

set_option maxRecDepth 100000 in
theorem fnCheck_lifted (os : Os) (started : os.Started) (H : Type) (enc : TypeId × Value → H) :
    ReturnsInHanded {} Tryz.checked os 7 .any (fun w args => (Rows.fnCheckSpec.pre enc Tryz.prog Tryz.f7 [] false w args ∧ laidMetH Tryz.prog laidLC w) ∧ sizedMet enc Tryz.prog Tryz.f7 (OpenSpec.ofChange Rows.fnCheckSpec) false w args)
      (Rows.fnCheckSpec.post enc Tryz.prog Tryz.f7 false true false false) := by
  refine returnsInHanded_of_change_and (C := Tryz.checked) (X := fun w _ => laidMetH Tryz.prog laidLC w) (fun _ _ _ hh h => h.of_heap hh) ownKnC started (by kernel_rfl) Tryz.func7
    (ChangeSpec.witness_shaped (enc := enc) (C := Tryz.checked) (os := os) (X := fun w _ => laidMetH Tryz.prog laidLC w) false (World.laidAll Tryz.prog os laidLC) #[.slice none 0 0, .int .i64 0] 8 (World.laidAll_os _ _ _)
      (World.shaped_of_ZipB (by kernel_rfl) (by kernel_rfl)) (by kernel_rfl) (by kernel_rfl) (by kernel_rfl)
      (by rw [MakeChecks.laidMetH_plain _ _ _ (by kernel_rfl)]; exact laidMet_laidAll _ (by kernel_rfl) (by kernel_rfl))) ?_
  intro W base args ds gs before hval0 hW _ _ hL _
  have hval : ∀ (j : Nat) t v, Tryz.f7.params[j]? = some t → args[j]? = some v → Value.okWide Tryz.prog W .any base t v := hval0
  have hW' := hW
  obtain ⟨p, q, hA0, hV, rfl, _, _⟩ := hW
  have hA : DataW.TrodAll enc Tryz.prog W 0 (fun _ => true) true Tryz.f7.params.toList args.toList ds p := hA0
  rw [Tryz.params7] at hA hval
  obtain ⟨v0, v1, d0, d1, p0, p1, rfl, rfl, rfl, h0, h1⟩ := trodAll_two hA
  obtain ⟨rfl, rfl⟩ := trodVars_none hV
  obtain ⟨y, rfl, rfl, rfl, wy⟩ := open_int Tryz.underlying3 (hval 1 3 v1 rfl rfl) h1
  have h0k := h0
  obtain ⟨a0, len, cap, rfl⟩ := okWide_slice Tryz.underlying28 (hval 0 28 v0 rfl rfl)
  obtain ⟨fuel, hf⟩ := h0
  simp only [List.append_nil] at hW'
  have hlt : ∀ x ∈ p0, x.block < W.heap.size := fun x hx => by simpa using hW'.lt x (by simpa using hx)
  have main : Calls Tryz.prog 7 #[.slice a0 len cap, .int .i64 y] W (TruePost W) := by
    rcases open_ints Tryz.underlying28 Tryz.underlying3 cells3C hf with ⟨hcs, hx⟩ | ⟨a, len', cap', zs, hcs, _, hl, hm, hz, hx, hcell, hwz⟩
    · simp [Value.cells] at hcs
      obtain ⟨rfl, rfl, rfl⟩ := hcs
      exact fnChk_out none 0 0 y (Or.inl rfl) (by omega) W
    · simp [Value.cells] at hcs
      obtain ⟨rfl, rfl, rfl⟩ := hcs
      simp only [if_true] at hz
      exact fnChk_any y hl hm (by omega) hcell
  refine main.mono fun e W' ⟨he, hb⟩ => ?_
  subst he
  exact ⟨_, rfl, _, _, _, [], p0 ++ [], [], hW', trodAll_mk1 (shut_bool Tryz.underlying4 _), trodAll_mk2 (Below.trod laidOutC (by kernel_rfl) (of_decide_eq_true (by kernel_rfl)) h0k hb hlt) (shut_int Tryz.underlying3 wy), rfl, hb.frame _, fun h => by cases h⟩

theorem fnCheck_holds : Rows.FnCheckSaid :=
  OpenClaim.holds_of_wide 7 Tryz.f7 rfl rfl rfl rfl rfl rfl rfl ⟨rfl, rfl, rfl, rfl, rfl⟩ rfl rfl rfl rfl rfl (by kernel_rfl) Tryz.func7 (by kernel_rfl)
    (of_decide_eq_true (by kernel_rfl)) (by unfold Func.isWrapper; first | (rw [if_pos (by decide +kernel)]; kernel_rfl) | (rw [if_neg (by decide +kernel)]; exact ⟨rfl, rfl⟩))
    (fun os started H enc _ => fnCheck_lifted os started H enc)

theorem fnCheck_card : Rows.FnCheckCardSaid :=
  Claim7.holds_tied_plain_at .later [] [.data, .pinned] true (true, "3c02546d83fb1081b50c595e10acd152b50cfb822275c845e90c4a4ec066cdf2") false
    fnCheck_holds (fun _ h => by cases h) (by kernel_rfl) (fun _ h => by cases h) fnCheck_row_tie rfl ⟨rfl, rfl⟩ (by kernel_rfl) rfl
    (fun f fn hf hfn => by
      obtain rfl : f = 7 := Option.some.inj ((show Tryz.prog.funcNamed "zxdatamatrix/laws.FnCheck" = some 7 by kernel_rfl).symm.trans hf) |>.symm
      obtain rfl : fn = Tryz.f7 := (Option.some.inj (Tryz.func7.symm.trans hfn)).symm
      exact ⟨by kernel_rfl, fun j t ht => by
        rw [Tryz.params7] at ht
        have hm : t ∈ [28, 3] := by simpa using Array.mem_of_getElem? ht
        have hall : ([28, 3].all fun u => !Tryz.prog.wantsStandIn u) = true := by kernel_rfl
        exact (show Tryz.prog.wantsStandIn t = false by simpa using List.all_eq_true.1 hall t hm)⟩)
    (by kernel_rfl)
#print axioms fnCheck_card
end Go.Proofs.YtcnallabiffemaaGreatDoor
