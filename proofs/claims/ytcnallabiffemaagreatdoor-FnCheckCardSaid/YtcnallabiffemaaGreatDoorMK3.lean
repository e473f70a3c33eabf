import Derived.Test.YtcnallabiffemaaGreatDoorMK2

/- FnCheck: the walk. -/
namespace Go.Proofs.YtcnallabiffemaaGreatDoor
open Go.RowKit

theorem fnChk_big (v : Option Addr) (len cap : Nat) (s : Int) (h : 2147483647 < len) (h2 : len ≤ 9223372036854775807) (w : World) : Calls Tryz.prog 7 #[.slice v len cap, .int .i64 s] w (TruePost w) := by
  have g1 : (2147483647 : Int) < (len : Int) := by omega
  go_enter Tryz.func7, Tryz.ntmps7
  go_wp2
  go_ret
  exact ⟨rfl, Below.refl _ _⟩

set_option maxHeartbeats 2000000 in
theorem fnChk_out (v : Option Addr) (len cap : Nat) (s : Int) (h : len = 0 ∨ 1000 < len) (h2 : len ≤ 2147483647) (w : World) : Calls Tryz.prog 7 #[.slice v len cap, .int .i64 s] w (TruePost w) := by
  have g1 : ¬ (2147483647 : Int) < (len : Int) := by omega
  by_cases h0 : len = 0
  · subst h0
    go_enter Tryz.func7, Tryz.ntmps7
    go_wp2_with (first | (go_at_call 20; refine (symAt_calls _ _).mono ?_; rintro e w1 ⟨rfl, hb⟩; have HB := Lib.hid hb; clear hb; unfold syV) | (go_at_call 9; refine (works_calls _).mono ?_; rintro e w5 ⟨rfl, hb5⟩; have HB5 := Lib.hid hb5; clear hb5))
    go_ret
    have z := HB.out.size
    exact ⟨rfl, (HB.out.alloc z _).trans (HB5.out.mono (by simp <;> omega))⟩
  · have g2 : ¬ (len : Int) = 0 := by omega
    have g3 : (1000 : Int) < (len : Int) := by omega
    go_enter Tryz.func7, Tryz.ntmps7
    go_wp2_with (first | (go_at_call 20; refine (symAt_calls _ _).mono ?_; rintro e w1 ⟨rfl, hb⟩; have HB := Lib.hid hb; clear hb; unfold syV) | (go_at_call 9; refine (works_calls _).mono ?_; rintro e w5 ⟨rfl, hb5⟩; have HB5 := Lib.hid hb5; clear hb5))
    go_ret
    have z := HB.out.size
    exact ⟨rfl, (HB.out.alloc z _).trans (HB5.out.mono (by simp <;> omega))⟩

def symC (j : Nat) : Obj := .cells #[.int .i64 (syN j 0), .int .i64 (syN j 1), .int .i64 (syN j 2), .int .i64 (syN j 3), .int .i64 (syN j 4), .int .i64 (syN j 5), .int .i64 (syN j 6)] 30
theorem drew_lt {w1 w2 : World} {o : Obj} {xs : List Int} (hr : Row w2 ((w1.alloc o).heap.size + 1) .i64 3 xs) : w1.heap.size + 1 < w2.heap.size := by
  have := hr.lt
  rw [alloc_heap, Array.size_push] at this
  omega
theorem drew_ints {w1 w2 : World} {o : Obj} {xs : List Nat} (hr : Row w2 ((w1.alloc o).heap.size + 1) .i64 3 (nl xs)) : Ints w2 (w1.heap.size + 1 + 1) xs := by
  have := Ints.of_row hr
  rw [alloc_heap, Array.size_push] at this
  exact this
theorem lt_of_cell {w : World} {b i : Nat} {v : Value} (h : w.cell? ⟨b, i, none⟩ = some v) : b < w.heap.size := by
  rcases Nat.lt_or_ge b w.heap.size with h1 | h1
  · exact h1
  · simp [World.cell?, Array.getElem?_eq_none h1] at h
set_option maxRecDepth 100000 in
set_option maxHeartbeats 4000000 in
theorem fnChk_in {zs : List Int} {sb so cap : Nat} (s : Int) {w : World} (hc : ∀ j, j < zs.length → w.cell? ⟨sb, so + j, none⟩ = some (.int .i64 (zs.getD j 0))) (h1 : 1 ≤ zs.length) (h2 : zs.length ≤ 1000) :
    Calls Tryz.prog 7 #[.slice (some ⟨sb, so, none⟩) zs.length cap, .int .i64 s] w (TruePost w) := by
  have hsb : sb < w.heap.size := lt_of_cell (hc 0 (by omega))
  obtain ⟨_, hi⟩ := symIx_ok s
  obtain ⟨L, hL⟩ : ∃ L, L = zs.length := ⟨_, rfl⟩
  have g1 : ¬ (2147483647 : Int) < (L : Int) := by omega
  have g2 : ¬ (L : Int) = 0 := by omega
  have g3 : ¬ (1000 : Int) < (L : Int) := by omega
  have g4 : ((L : Int) == 0) = false := by rw [beq_eq_false_iff_ne]; exact g2
  have A := symAt_calls s w
  have D : ∀ (w : World), (∀ j, j < zs.length → w.cell? ⟨sb, so + j, none⟩ = some (.int .i64 (zs.getD j 0))) → sb < w.heap.size → Calls Tryz.prog 21 #[syV (symIx s), .slice (some ⟨sb, so, none⟩) L cap] w (DrawnPost (drawnN zs (syN (symIx s) 4)) w) := fun _ hc hs => hL ▸ drawn_calls hc hs h1 h2 hi
  rw [← hL]
  have HC := Lib.hid hc
  have DD := Lib.hid D
  have HL := Lib.hid hL
  obtain ⟨j, hj⟩ : ∃ j, j = symIx s := ⟨_, rfl⟩
  rw [← hj] at hi A DD
  obtain ⟨data, hdd⟩ : ∃ data, data = drawnN zs (syN j 4) := ⟨_, rfl⟩
  have hdl : data.length = syN j 4 := by rw [hdd]; simp
  have hds : Small data := by rw [hdd]; exact small_drawn _ _
  rw [← hdd] at DD
  have hcw := wordsN_len hdl
  have hsw := small_words hi hds
  obtain ⟨b1, b2, b3, b4, _⟩ := sy_bd j hi
  have hwl : (wordsN j data).length ≤ 4000 := by omega
  have HDL := Lib.hid hdl
  have HDS := Lib.hid hds
  clear hdl hds hcw hdd hj hL hc D b1 b2 b3 b4
  go_enter Tryz.func7, Tryz.ntmps7
  go_wp2_with (first
    | (go_at_call 20; refine A.mono ?_; rintro e w1 ⟨rfl, hb⟩; have hz := hb.size; have HB := Lib.hid hb; have HC1 := Lib.hid (show ∀ i, i < zs.length → (w1.alloc (symC j)).cell? ⟨sb, so + i, none⟩ = some (.int .i64 (zs.getD i 0)) from fun i hi => ((hb.alloc hz _).cell (p := ⟨sb, so + i, none⟩) hsb).trans (HC.out i hi)); have HS1 := Lib.hid (show (w1.alloc (symC j)).heap[w1.heap.size]? = some (symC j) from new_last rfl _); have HB1 := Lib.hid (hb.alloc hz (symC j)); clear hb A HC; unfold syV)
    | (go_at_call 21; refine (DD.out _ HC1.out (Nat.lt_of_lt_of_le hsb HB1.out.size)).mono ?_; rintro e w2 ⟨rfl, hr, hb⟩; have HX2 := Lib.hid (drew_ints hr); have hs2 := (hb.block _ (by simp)).trans HS1.out; obtain ⟨l0, l1, l2, l3, l4, l5, l6⟩ := cells7 hs2; have hw2 : w1.heap.size + 1 < w2.heap.size := drew_lt hr; have HB2 := Lib.hid (HB1.out.trans (hb.mono HB1.out.size)); have HS2 := Lib.hid hs2; clear hr hb hs2 HB1 HS1 HC1)
    | (go_at_call 24; refine (implCheck_calls hi HX2.out HDS.out HDL.out).mono ?_; rintro e w3 ⟨g3, cap3, rfl, hx3, hb3⟩; have HX3 := Lib.hid hx3; have HB3 := Lib.hid hb3; have HXD := Lib.hid (HX2.out.below hb3 HX2.out.1); have hs3 := (hb3.block _ (by omega)).trans HS2.out; obtain ⟨m0, m1, m2, m3, m4, m5, m6⟩ := cells7 hs3; clear hx3 hb3 hs3)
    | (go_at_call 16; refine (words_calls HXD.out HDS.out HDL.out hi).mono ?_; rintro e w4 ⟨g4, cap4, rfl, hg4, hx4, hb4⟩; have HX4 := Lib.hid hx4; have HY4 := Lib.hid (HX3.out.below hb4 HX3.out.1); have HB4 := Lib.hid hb4; clear hx4 hb4)
    | (go_at_call 15; refine (same_calls HY4.out HX4.out hwl).mono ?_; rintro e w5 ⟨rfl, n5, rfl⟩)
    | (go_at_call 9; refine (works_calls _).mono ?_; rintro e w6 ⟨rfl, hb6⟩; have HB6 := Lib.hid hb6; clear hb6))
  go_ret
  have z2 := HB2.out.size
  have z3 := HB3.out.size
  have z4 := HB4.out.size
  exact ⟨rfl, (below_dr (HB2.out.trans ((HB3.out.mono z2).trans (HB4.out.mono (by omega)))) n5).trans (HB6.out.mono (show w.heap.size ≤ w4.heap.size by omega))⟩
end Go.Proofs.YtcnallabiffemaaGreatDoor
