import Derived.Test.YtcnallabiffemaaGreatDoorMHac

/- The shape of a symbol; impl.SymbolFor. -/
set_option linter.unusedVariables false
set_option linter.unusedSimpArgs false
namespace Go.Proofs.YtcnallabiffemaaGreatDoor
open Go.RowKit

set_option maxHeartbeats 1000000 in
theorem shaped_calls (r c d a n e b sh : Nat) (hs : sh < 3) (w : World) :
    Calls Tryz.prog 13 #[.agg #[.int .i64 r, .int .i64 c, .int .i64 d, .int .i64 a, .int .i64 n, .int .i64 e, .int .i64 b], .int .i64 sh] w fun en w' => en = .returned (.bool (shapedB r c sh)) ∧ Below w.heap.size w w' := by
  by_cases hrc : r = c
  · subst hrc
    rcases (by omega : sh = 0 ∨ sh = 1 ∨ sh = 2) with rfl | rfl | rfl
    all_goals
      go_enter Tryz.func13, Tryz.ntmps13
      go_wp2
      go_ret
      exact ⟨by simp [shapedB], (Below.refl _ _).alloc (Nat.le_refl _) _⟩
  · have h1 : ((r : Int) == (c : Int)) = false := by rw [beq_eq_false_iff_ne]; omega
    rcases (by omega : sh = 0 ∨ sh = 1 ∨ sh = 2) with rfl | rfl | rfl
    all_goals
      go_enter Tryz.func13, Tryz.ntmps13
      go_wp2
      go_ret
      exact ⟨by simp [shapedB, hrc], (Below.refl _ _).alloc (Nat.le_refl _) _⟩

def SymForPost (o : Option Nat) (w : World) (e : Ending) (w' : World) : Prop :=
  (match o with
    | some i => e = .returned (.tuple #[.int .i64 (shOf i), .int .i64 (swOf i), .bool true])
    | none => e = .returned (.tuple #[.int .i64 0, .int .i64 0, .bool false])) ∧ Below w.heap.size w w'
theorem lookSym_lt {d : Int} {sh i : Nat} (h : lookSym d sh = some i) : i < 30 := by
  have := List.mem_of_find?_eq_some h
  simpa using this
theorem lookN_calls {data : Int} {shape : Nat} (hs : shape < 3) (hl : lookSym data shape = none) (w : World) :
    Calls Tryz.prog 42 #[.int .i64 data, .int .i64 shape, .pointer none, .pointer none, .bool true] w fun e w' =>
      ∃ T v, e = .returned (.tuple #[.pointer none, .iface T v]) ∧ Below w.heap.size w w' := by
  refine (lookup_calls data shape hs w).mono ?_
  rintro e w' ⟨hb, hp⟩
  rw [hl] at hp
  rcases hp with ⟨j, b, hj, _⟩ | ⟨_, T, v, he⟩
  · cases hj
  · exact ⟨T, v, he, hb⟩

set_option maxRecDepth 100000 in
set_option maxHeartbeats 1000000 in
theorem symFor_calls (d : Int) (sh : Nat) (hs : sh < 3) (w : World) : Calls Tryz.prog 18 #[.int .i64 d, .int .i64 sh] w (SymForPost (lookSym d sh) w) := by
  cases hl : lookSym d sh with
  | some i =>
    have hi := lookSym_lt hl
    have HL := Lib.hid hl
    clear hl
    go_enter Tryz.func18, Tryz.ntmps18
    go_wp2_with (first | (go_at_call 27; refine (shapesOk_calls hs _).mono ?_; rintro e w1 ⟨rfl, hb⟩; have HB := Lib.hid hb; clear hb) | (go_at_call 42; refine (lookI_calls hs HL.out _).mono ?_; rintro e w2 ⟨b, rfl, hbl, hsi, hb2⟩; have HSI := Lib.hid hsi; have HB2 := Lib.hid hb2; clear hbl hsi hb2) | (go_at_call 43; refine (sh_calls b i _ hi HSI.out).mono ?_; rintro e w3 ⟨rfl, n3, rfl⟩) | (go_at_call 44; refine (sw_calls b i _ hi (blk_drewN HSI.out)).mono ?_; rintro e w4 ⟨rfl, n4, rfl⟩))
    go_ret3
    exact ⟨rfl, below_dr (HB.out.trans (HB2.out.mono HB.out.size)) _⟩
  | none =>
    have HL := Lib.hid hl
    clear hl
    go_enter Tryz.func18, Tryz.ntmps18
    go_wp2_with (first | (go_at_call 27; refine (shapesOk_calls hs _).mono ?_; rintro e w1 ⟨rfl, hb⟩; have HB := Lib.hid hb; clear hb) | (go_at_call 42; refine (lookN_calls hs HL.out _).mono ?_; rintro e w2 ⟨T, v, rfl, hb2⟩; have HB2 := Lib.hid hb2; clear hb2))
    go_ret3
    exact ⟨rfl, HB.out.trans (HB2.out.mono HB.out.size)⟩

/-- the best of the first symbols -/
def bestTo (d sh : Nat) : Nat → Option Nat
  | 0 => none
  | k + 1 =>
    if decide (d ≤ syN k 4) && shapedB (syN k 0) (syN k 1) sh && (match bestTo d sh k with | none => true | some j => decide (syN k 4 < syN j 4)) then some k else bestTo d sh k
theorem best_look : ∀ sh, sh < 3 → ∀ d, d < 1304 → (lookSym ((d + 1 : Nat) : Int) sh).map (fun i => (shOf i, swOf i)) = (bestTo (d + 1) sh 29).map (fun j => ((syN j 0 : Int), (syN j 1 : Int))) := by decide +kernel
end Go.Proofs.YtcnallabiffemaaGreatDoor

/- FnSymbol: the walk. -/
set_option linter.unusedVariables false
set_option linter.unusedSimpArgs false
namespace Go.Proofs.YtcnallabiffemaaGreatDoor
open Go.RowKit

def TruePost (w : World) (e : Ending) (w' : World) : Prop := e = .returned (.bool true) ∧ Below w.heap.size w w'
theorem fnSym_out (d s : Int) (h : d < 1 ∨ 1304 < d ∨ s < 0 ∨ 2 < s) (w : World) : Calls Tryz.prog 4 #[.int .i64 d, .int .i64 s] w (TruePost w) := by
  by_cases h1 : d < 1
  · go_enter Tryz.func4, Tryz.ntmps4
    go_wp2_with (go_at_call 9; refine (works_calls _).mono ?_; rintro e w1 ⟨rfl, hb⟩)
    go_ret
    exact ⟨rfl, hb⟩
  · by_cases h2 : 1304 < d
    · go_enter Tryz.func4, Tryz.ntmps4
      go_wp2_with (go_at_call 9; refine (works_calls _).mono ?_; rintro e w1 ⟨rfl, hb⟩)
      go_ret
      exact ⟨rfl, hb⟩
    · by_cases h3 : s < 0
      · go_enter Tryz.func4, Tryz.ntmps4
        go_wp2_with (go_at_call 9; refine (works_calls _).mono ?_; rintro e w1 ⟨rfl, hb⟩)
        go_ret
        exact ⟨rfl, hb⟩
      · have h4 : 2 < s := by omega
        go_enter Tryz.func4, Tryz.ntmps4
        go_wp2_with (go_at_call 9; refine (works_calls _).mono ?_; rintro e w1 ⟨rfl, hb⟩)
        go_ret
        exact ⟨rfl, hb⟩

def bestN (o : Option Nat) (k : Nat) : Nat := match o with | none => 0 | some j => syN j k
def bestV (o : Option Nat) : Array Value := #[.int .i64 (bestN o 0), .int .i64 (bestN o 1), .int .i64 (bestN o 2), .int .i64 (bestN o 3), .int .i64 (bestN o 4), .int .i64 (bestN o 5), .int .i64 (bestN o 6)]

theorem keep7 {w wr w3 : World} {o : Obj} {V : Array Value} {xs : List Int} (hb3 : Below (wr.alloc o).heap.size (wr.alloc o) w3) (h5 : wr.heap[w.heap.size]? = some (.cells V 30)) (hr : Row wr (w.heap.size + 1) .i64 30 xs) (hbw : Below w.heap.size w wr) :
    w3.heap[w.heap.size]? = some (.cells V 30) ∧ Row w3 (w.heap.size + 1) .i64 30 xs ∧ Below w.heap.size w w3 ∧ w3.heap[wr.heap.size]? = some o := by
  have hl := lt_of_blk h5
  have hl2 := hr.lt
  refine ⟨?_, (hr.alloc o).below hb3 (by simp; omega), (hbw.alloc (by omega) o).trans (hb3.mono (by simp; omega)), (hb3.block _ (by simp)).trans (new_last rfl _)⟩
  exact (hb3.block _ (by simp; omega)).trans ((Below.heap_alloc _ _ _ hl).trans h5)
theorem cells7 {w : World} {b : Nat} {x0 x1 x2 x3 x4 x5 x6 : Value} (h : w.heap[b]? = some (.cells #[x0, x1, x2, x3, x4, x5, x6] 30)) :
    w.cell? ⟨b, 0, none⟩ = some x0 ∧ w.cell? ⟨b, 1, none⟩ = some x1 ∧ w.cell? ⟨b, 2, none⟩ = some x2 ∧ w.cell? ⟨b, 3, none⟩ = some x3 ∧ w.cell? ⟨b, 4, none⟩ = some x4 ∧ w.cell? ⟨b, 5, none⟩ = some x5 ∧ w.cell? ⟨b, 6, none⟩ = some x6 := by
  refine ⟨?_, ?_, ?_, ?_, ?_, ?_, ?_⟩ <;> (rw [cell_blk h]; rfl)
theorem set7 {w : World} {b : Nat} {o : Option Nat} (h : w.heap[b]? = some (.cells (bestV o) 30)) (x0 x1 x2 x3 x4 x5 x6 : Value) :
    (((((((w.setCell ⟨b, 0, none⟩ x0).setCell ⟨b, 1, none⟩ x1).setCell ⟨b, 2, none⟩ x2).setCell ⟨b, 3, none⟩ x3).setCell ⟨b, 4, none⟩ x4).setCell ⟨b, 5, none⟩ x5).setCell ⟨b, 6, none⟩ x6).heap[b]? = some (.cells #[x0, x1, x2, x3, x4, x5, x6] 30) := by
  rw [heap_setCell_at (heap_setCell_at (heap_setCell_at (heap_setCell_at (heap_setCell_at (heap_setCell_at (heap_setCell_at h 0 x0) 1 x1) 2 x2) 3 x3) 4 x4) 5 x5) 6 x6]; simp [bestV]
theorem row7 {w : World} {b c : Nat} {xs : List Int} (h : Row w c .i64 30 xs) (hc : c ≠ b) (x0 x1 x2 x3 x4 x5 x6 : Value) :
    Row (((((((w.setCell ⟨b, 0, none⟩ x0).setCell ⟨b, 1, none⟩ x1).setCell ⟨b, 2, none⟩ x2).setCell ⟨b, 3, none⟩ x3).setCell ⟨b, 4, none⟩ x4).setCell ⟨b, 5, none⟩ x5).setCell ⟨b, 6, none⟩ x6) c .i64 30 xs :=
  ((((((h.set_ne hc x0).set_ne hc x1).set_ne hc x2).set_ne hc x3).set_ne hc x4).set_ne hc x5).set_ne hc x6
theorem below7 {w0 w : World} {B : Nat} (h : Below B w0 w) (x0 x1 x2 x3 x4 x5 x6 : Value) :
    Below B w0 (((((((w.setCell ⟨B, 0, none⟩ x0).setCell ⟨B, 1, none⟩ x1).setCell ⟨B, 2, none⟩ x2).setCell ⟨B, 3, none⟩ x3).setCell ⟨B, 4, none⟩ x4).setCell ⟨B, 5, none⟩ x5).setCell ⟨B, 6, none⟩ x6) :=
  ((((((h.setCell (Nat.le_refl _) x0).setCell (Nat.le_refl _) x1).setCell (Nat.le_refl _) x2).setCell (Nat.le_refl _) x3).setCell (Nat.le_refl _) x4).setCell (Nat.le_refl _) x5).setCell (Nat.le_refl _) x6
theorem free7 {w : World} {b : Nat} {V : Array Value} (h : w.heap[b]? = some (.cells V 30)) :
    w.frozen? ⟨b, 0, none⟩ = false ∧ w.frozen? ⟨b, 1, none⟩ = false ∧ w.frozen? ⟨b, 2, none⟩ = false ∧ w.frozen? ⟨b, 3, none⟩ = false ∧ w.frozen? ⟨b, 4, none⟩ = false ∧ w.frozen? ⟨b, 5, none⟩ = false ∧ w.frozen? ⟨b, 6, none⟩ = false := by
  refine ⟨?_, ?_, ?_, ?_, ?_, ?_, ?_⟩ <;> exact frozen_blk h _

set_option maxRecDepth 100000 in
set_option maxHeartbeats 4000000 in
theorem fnSym_in (d sh : Nat) (h1 : 1 ≤ d) (h2 : d ≤ 1304) (hs : sh < 3) (w : World) : Calls Tryz.prog 4 #[.int .i64 d, .int .i64 sh] w (TruePost w) := by
  have g1 : ¬ (d : Int) < 1 := by omega
  have g2 : ¬ (1304 : Int) < (d : Int) := by omega
  have g3 : ¬ (sh : Int) < 0 := by omega
  have g4 : ¬ (2 : Int) < (sh : Int) := by omega
  go_enter Tryz.func4, Tryz.ntmps4
  go_wp2_with (go_at_call 17; refine (spSyms_calls _).mono ?_; rintro e w1 ⟨rfl, hr, hb, hz⟩)
  clear g1 g2 g3 g4
  have hb5 : w1.heap[w.heap.size]? = some (.cells (bestV (bestTo d sh 0)) 30) := (hb.block _ (by simp)).trans (new_last rfl _)
  have hbw : Below w.heap.size w w1 := ((Below.refl _ _).alloc (Nat.le_refl _) _).trans (hb.mono (by simp))
  have HR := Lib.hid hr
  have H5 := Lib.hid hb5
  have HBW := Lib.hid hbw
  clear hr hb5 hbw hb hz
  go_loopw [30, 6] (fun i f wr => ∃ k : Nat, k ≤ 29 ∧ i = .int .i64 k ∧ f = .bool (bestTo d sh k).isSome ∧ Hid (wr.heap[w.heap.size]? = some (.cells (bestV (bestTo d sh k)) 30)) ∧ Hid (Row wr (w.heap.size + 1) .i64 30 syInts) ∧ Hid (Below w.heap.size w wr)) (fun i _ _ => 29 - (intOf i).toNat)
  case atStart => exact ⟨0, by omega, rfl, rfl, H5.out, by simpa [Lib.hid] using HR, HBW.out⟩
  case round =>
    obtain ⟨k, hk, rfl, rfl, h5, hr, hbw⟩ := hrel
    by_cases hlt : k < 29
    · have c0 : wr.cell? ⟨w.heap.size + 1, k * 7, none⟩ = some (.int .i64 (syN k 0)) := sy_cell hr.out hlt 0 (by omega)
      have c1 := sy_cell hr.out hlt 1 (by omega)
      have c2 := sy_cell hr.out hlt 2 (by omega)
      have c3 := sy_cell hr.out hlt 3 (by omega)
      have c4 := sy_cell hr.out hlt 4 (by omega)
      have c5 := sy_cell hr.out hlt 5 (by omega)
      have c6 := sy_cell hr.out hlt 6 (by omega)
      by_cases hd : d ≤ syN k 4
      · have hdi : (d : Int) ≤ (syN k 4 : Int) := by omega
        cases hsb : shapedB (syN k 0) (syN k 1) sh with
        | false =>
          have hn : bestTo d sh (k + 1) = bestTo d sh k := by simp [bestTo, hsb]
          have HN := Lib.hid hn
          have g13 : ∀ wx, Calls Tryz.prog 13 #[.agg #[.int .i64 (syN k 0), .int .i64 (syN k 1), .int .i64 (syN k 2), .int .i64 (syN k 3), .int .i64 (syN k 4), .int .i64 (syN k 5), .int .i64 (syN k 6)], .int .i64 sh] wx fun en w' => en = .returned (.bool false) ∧ Below wx.heap.size wx w' := fun wx => hsb ▸ shaped_calls _ _ _ _ _ _ _ sh hs wx
          have G := Lib.hid g13
          have HSB := Lib.hid hsb
          clear hn g13 hsb
          go_wp2_with (go_at_call 13; refine (G.out _).mono ?_; rintro e w3 ⟨rfl, hb3⟩; have HB3 := Lib.hid (keep7 hb3 h5.out hr.out hbw.out); clear hb3)
          exact ⟨⟨k + 1, by omega, by go_num, by rw [HN.out], by rw [HN.out]; exact HB3.out.1, HB3.out.2.1, HB3.out.2.2.1⟩, by simp [intOf]; omega⟩
        | true =>
          cases hbo : bestTo d sh k with
          | none =>
            have hn : bestTo d sh (k + 1) = some k := by simp [bestTo, hd, hsb, hbo]
            have HN := Lib.hid hn
            have g13 : ∀ wx, Calls Tryz.prog 13 #[.agg #[.int .i64 (syN k 0), .int .i64 (syN k 1), .int .i64 (syN k 2), .int .i64 (syN k 3), .int .i64 (syN k 4), .int .i64 (syN k 5), .int .i64 (syN k 6)], .int .i64 sh] wx fun en w' => en = .returned (.bool true) ∧ Below wx.heap.size wx w' := fun wx => hsb ▸ shaped_calls _ _ _ _ _ _ _ sh hs wx
            have G := Lib.hid g13
            rw [hbo] at h5
            have HSB := Lib.hid hsb
            clear hn g13 hsb hbo
            go_wp2_with (go_at_call 13; refine (G.out _).mono ?_; rintro e w3 ⟨rfl, hb3⟩; have HB3 := Lib.hid (keep7 hb3 h5.out hr.out hbw.out); clear hb3; obtain ⟨e0, e1, e2, e3, e4, e5, e6⟩ := cells7 HB3.out.2.2.2; obtain ⟨l0, l1, l2, l3, l4, l5, l6⟩ := cells7 HB3.out.1; obtain ⟨f0, f1, f2, f3, f4, f5, f6⟩ := free7 HB3.out.1)
            exact ⟨⟨k + 1, by omega, by go_num, by rw [HN.out]; rfl, by rw [HN.out]; exact set7 HB3.out.1 _ _ _ _ _ _ _, row7 HB3.out.2.1 (by omega) _ _ _ _ _ _ _, below7 HB3.out.2.2.1 _ _ _ _ _ _ _⟩, by simp [intOf]; omega⟩
          | some j =>
            by_cases hlj : syN k 4 < syN j 4
            · have hn : bestTo d sh (k + 1) = some k := by simp [bestTo, hd, hsb, hbo, hlj]
              have HN := Lib.hid hn
              have hli : (syN k 4 : Int) < (syN j 4 : Int) := by omega
              have g13 : ∀ wx, Calls Tryz.prog 13 #[.agg #[.int .i64 (syN k 0), .int .i64 (syN k 1), .int .i64 (syN k 2), .int .i64 (syN k 3), .int .i64 (syN k 4), .int .i64 (syN k 5), .int .i64 (syN k 6)], .int .i64 sh] wx fun en w' => en = .returned (.bool true) ∧ Below wx.heap.size wx w' := fun wx => hsb ▸ shaped_calls _ _ _ _ _ _ _ sh hs wx
              have G := Lib.hid g13
              rw [hbo] at h5
              have HSB := Lib.hid hsb
              have HBO := Lib.hid hbo
              clear hn g13 hsb hbo
              go_wp2_with (go_at_call 13; refine (G.out _).mono ?_; rintro e w3 ⟨rfl, hb3⟩; have HB3 := Lib.hid (keep7 hb3 h5.out hr.out hbw.out); clear hb3; obtain ⟨e0, e1, e2, e3, e4, e5, e6⟩ := cells7 HB3.out.2.2.2; obtain ⟨l0, l1, l2, l3, l4, l5, l6⟩ := cells7 HB3.out.1; obtain ⟨f0, f1, f2, f3, f4, f5, f6⟩ := free7 HB3.out.1)
              exact ⟨⟨k + 1, by omega, by go_num, by rw [HN.out]; rfl, by rw [HN.out]; exact set7 HB3.out.1 _ _ _ _ _ _ _, row7 HB3.out.2.1 (by omega) _ _ _ _ _ _ _, below7 HB3.out.2.2.1 _ _ _ _ _ _ _⟩, by simp [intOf]; omega⟩
            · have hn : bestTo d sh (k + 1) = some j := by simp [bestTo, hsb, hbo, hlj]
              have HN := Lib.hid hn
              have hli : ¬ (syN k 4 : Int) < (syN j 4 : Int) := by omega
              have g13 : ∀ wx, Calls Tryz.prog 13 #[.agg #[.int .i64 (syN k 0), .int .i64 (syN k 1), .int .i64 (syN k 2), .int .i64 (syN k 3), .int .i64 (syN k 4), .int .i64 (syN k 5), .int .i64 (syN k 6)], .int .i64 sh] wx fun en w' => en = .returned (.bool true) ∧ Below wx.heap.size wx w' := fun wx => hsb ▸ shaped_calls _ _ _ _ _ _ _ sh hs wx
              have G := Lib.hid g13
              rw [hbo] at h5
              have HSB := Lib.hid hsb
              have HBO := Lib.hid hbo
              clear hn g13 hsb hbo
              go_wp2_with (go_at_call 13; refine (G.out _).mono ?_; rintro e w3 ⟨rfl, hb3⟩; have HB3 := Lib.hid (keep7 hb3 h5.out hr.out hbw.out); clear hb3; obtain ⟨e0, e1, e2, e3, e4, e5, e6⟩ := cells7 HB3.out.2.2.2; obtain ⟨l0, l1, l2, l3, l4, l5, l6⟩ := cells7 HB3.out.1; obtain ⟨f0, f1, f2, f3, f4, f5, f6⟩ := free7 HB3.out.1)
              exact ⟨⟨k + 1, by omega, by go_num, by rw [HN.out]; rfl, by rw [HN.out]; exact HB3.out.1, HB3.out.2.1, HB3.out.2.2.1⟩, by simp [intOf]; omega⟩
      · have hdi : ¬ (d : Int) ≤ (syN k 4 : Int) := by omega
        have hn : bestTo d sh (k + 1) = bestTo d sh k := by simp [bestTo, hd]
        have HN := Lib.hid hn
        clear hn
        go_wp2
        exact ⟨⟨k + 1, by omega, by go_num, by rw [HN.out], by rw [HN.out]; exact (Below.heap_alloc _ _ _ (lt_of_blk h5.out)).trans h5.out, hr.out.alloc _, hbw.out.alloc hbw.out.size _⟩, by simp [intOf]; omega⟩
    · obtain rfl : 29 = k := by omega
      have hbl := best_look sh hs (d - 1) (by omega)
      rw [show d - 1 + 1 = d by omega] at hbl
      obtain ⟨l0, l1, l2, l3, l4, l5, l6⟩ := cells7 h5.out
      cases hlk : lookSym (d : Int) sh with
      | some i =>
        cases hbo : bestTo d sh 29 with
        | none => rw [hlk, hbo] at hbl; cases hbl
        | some j =>
          rw [hlk, hbo] at hbl
          simp only [Option.map_some, Option.some.injEq, Prod.mk.injEq] at hbl
          obtain ⟨q0, q1⟩ := hbl
          have g18 : ∀ wx, Calls Tryz.prog 18 #[.int .i64 d, .int .i64 sh] wx fun e w' => e = .returned (.tuple #[.int .i64 (syN j 0), .int .i64 (syN j 1), .bool true]) ∧ Below wx.heap.size wx w' := fun wx => by
            have := symFor_calls d sh hs wx
            rw [hlk] at this
            rw [← q0, ← q1]; exact this
          have G18 := Lib.hid g18
          rw [hbo] at h5 l0 l1
          have HBW := hbw
          clear g18 hlk hbo q0 q1 l2 l3 l4 l5 l6
          go_wp2_with (first | (go_at_call 18; refine (G18.out _).mono ?_; rintro e w4 ⟨rfl, hb4⟩; obtain ⟨m0, m1, m2, m3, m4, m5, m6⟩ := cells7 ((hb4.block _ (lt_of_blk h5.out)).trans h5.out); have HB4 := Lib.hid hb4; clear hb4) | (go_at_call 9; refine (works_calls _).mono ?_; rintro e w5 ⟨rfl, hb5⟩; have HB5 := Lib.hid hb5; clear hb5))
          go_ret
          have z1 := hbw.out.size
          have z2 := HB4.out.size
          exact ⟨rfl, hbw.out.trans ((HB4.out.mono z1).trans (HB5.out.mono (by omega)))⟩
      | none =>
        cases hbo : bestTo d sh 29 with
        | some j => rw [hlk, hbo] at hbl; cases hbl
        | none =>
          have g18 : ∀ wx, Calls Tryz.prog 18 #[.int .i64 d, .int .i64 sh] wx fun e w' => e = .returned (.tuple #[.int .i64 0, .int .i64 0, .bool false]) ∧ Below wx.heap.size wx w' := fun wx => by
            have := symFor_calls d sh hs wx
            rw [hlk] at this
            exact this
          have G18 := Lib.hid g18
          rw [hbo] at h5 l0 l1
          clear g18 hlk hbo hbl l2 l3 l4 l5 l6
          go_wp2_with (first | (go_at_call 18; refine (G18.out _).mono ?_; rintro e w4 ⟨rfl, hb4⟩; have HB4 := Lib.hid hb4; clear hb4) | (go_at_call 9; refine (works_calls _).mono ?_; rintro e w5 ⟨rfl, hb5⟩; have HB5 := Lib.hid hb5; clear hb5))
          go_ret
          have z1 := hbw.out.size
          have z2 := HB4.out.size
          exact ⟨rfl, hbw.out.trans ((HB4.out.mono z1).trans (HB5.out.mono (by omega)))⟩
end Go.Proofs.YtcnallabiffemaaGreatDoor
