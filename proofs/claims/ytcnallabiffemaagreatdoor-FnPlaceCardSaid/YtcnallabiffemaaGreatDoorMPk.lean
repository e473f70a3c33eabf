import Derived.Test.YtcnallabiffemaaGreatDoorMK1

/- impl.Check: the data and check codewords of a symbol. -/
set_option linter.unusedVariables false
set_option linter.unusedSimpArgs false
namespace Go.Proofs.YtcnallabiffemaaGreatDoor
open Go.RowKit

theorem implSym_calls {i : Nat} (hi : i < 29) (w : World) :
    Calls Tryz.prog 58 #[.int .i64 (shOf i), .int .i64 (swOf i)] w fun e w' => ∃ b, e = .returned (.tuple #[.pointer (some ⟨b, 0, none⟩), .bool true]) ∧ w'.heap[b]? = some (.cells (siOf i) 112) ∧ Below w.heap.size w w' := by
  have hp : (0 : Int) ≤ swOf i ∧ (0 : Int) ≤ shOf i := (by decide +kernel : ∀ i, i < 29 → (0 : Int) ≤ swOf i ∧ (0 : Int) ≤ shOf i) i hi
  go_enter Tryz.func58, Tryz.ntmps58
  go_wp2_with (first | (go_at_call 108; refine (newDim_calls _ _ hp.1 hp.2 _).mono ?_; rintro e w1 ⟨rfl, rfl⟩) | (go_at_call 42; refine (lookSz_calls hi (new_last rfl _)).mono ?_; rintro e w2 ⟨b, rfl, hsi, hb⟩; have HSI := Lib.hid hsi; have HB := Lib.hid hb; clear hsi hb))
  go_ret2
  exact ⟨b, rfl, HSI.out, ((Below.refl _ _).alloc (Nat.le_refl _) _).trans (HB.out.mono (by simp))⟩

/-- the package's symbol of the reference's symbol -/
def pkgIx (j : Nat) : Nat := ((List.range 30).find? fun i => decide (swOf i = (syN j 1 : Int)) && decide (shOf i = (syN j 0 : Int))).getD 30
theorem pkg_ok : ∀ j, j < 29 → pkgIx j < 29 ∧ shOf (pkgIx j) = (syN j 0 : Int) ∧ swOf (pkgIx j) = (syN j 1 : Int) ∧ dataOf (pkgIx j) = (syN j 4 : Int) ∧ checkOf (pkgIx j) = (syN j 5 : Int) ∧ nbOf (pkgIx j) = (syN j 6 : Int) ∧
    rbdOf (pkgIx j) = ((syN j 4 / syN j 6 : Nat) : Int) ∧ rbeOf (pkgIx j) = ((syN j 5 / syN j 6 : Nat) : Int) := by decide +kernel

theorem map_getD (xs : List Nat) : (List.range xs.length).map (fun e => xs.getD e 0) = xs := by
  refine ext_getD (by simp) fun i hi => ?_
  simp only [List.length_map, List.length_range] at hi
  rw [List.getD_eq_getElem?_getD, List.getElem?_map, List.getElem?_range hi]; rfl
theorem block_one (data : List Nat) : blockTo data 1 0 data.length = data := by
  have : blockTo data 1 0 data.length = (List.range data.length).map (fun e => data.getD e 0) := by
    unfold blockTo; congr 1; funext j; congr 1; omega
  rw [this, map_getD]
theorem words_eq {j : Nat} (hj : j < 29) {data : List Nat} (hs : Small data) :
    wordsN j data = data ++ (List.range (syN j 5)).map (valE (facN (tOf (pkgIx j))) data (syN j 6) (syN j 4 / syN j 6)) := by
  obtain ⟨h1, _, _, _, _, _, _, h8⟩ := pkg_ok j hj
  obtain ⟨t1, t2⟩ := tOf_ok _ h1
  have hn : (facN (tOf (pkgIx j))).length = syN j 5 / syN j 6 := by rw [h8] at t2; omega
  unfold wordsN wordsG
  congr 1
  apply List.map_congr_left
  intro e _
  rw [tailN, valE, ← hn, check_ecc t1 (mem_of_small (small_block hs _ _ _))]

theorem encAll_calls {j b cb cap : Nat} {data : List Nat} {w : World} (hj : j < 29) (h : w.heap[b]? = some (.cells (siOf (pkgIx j)) 112)) (hl : data.length = syN j 4) (hs : Small data) (hcw : Bytes w cb data) :
    Calls Tryz.prog 59 #[.slice (some ⟨cb, 0, none⟩) data.length cap, .pointer (some ⟨b, 0, none⟩)] w (EncPost (wordsN j data) w) := by
  obtain ⟨h1, h2, h3, h4, h5, h6, h7, h8⟩ := pkg_ok j hj
  obtain ⟨t1, t2⟩ := tOf_ok _ h1
  have hn : (facN (tOf (pkgIx j))).length = syN j 5 / syN j 6 := by rw [h8] at t2; omega
  obtain ⟨_, _, _, _, d5, _⟩ := sy_bd j hj
  obtain ⟨e1, e2, _⟩ := sy_block j hj
  rcases Nat.lt_or_ge (syN j 6) 2 with hB | hB
  · have hB1 : syN j 6 = 1 := by omega
    have hq : syN j 4 / syN j 6 = syN j 4 := by rw [hB1, Nat.div_one]
    have hn1 : syN j 5 / syN j 6 = syN j 5 := by rw [hB1, Nat.div_one]
    have := enc1_calls b (pkgIx j) cb cap data w h1 h (by rw [h4, h7, hq]) (by rw [h4, hl]) hs hcw
    have e : wordsN j data = data ++ eccOut (facN (tOf (pkgIx j))) data := by
      rw [words_eq hj hs]
      congr 1
      have hle : (eccOut (facN (tOf (pkgIx j))) data).length = syN j 5 := by rw [eccOut_len, hn, hn1]
      rw [← map_getD (eccOut (facN (tOf (pkgIx j))) data), hle]
      apply List.map_congr_left
      intro e _
      rw [valE, hB1, Nat.mod_one, Nat.div_one, Nat.div_one, ← hl, block_one]
    rw [e]; exact this
  · rw [words_eq hj hs]
    exact encM_calls h1 h h4 h5 h6 h7 h8 hB hl hs hcw
theorem wordsN_len {j : Nat} {data : List Nat} (hl : data.length = syN j 4) : (wordsN j data).length = syN j 4 + syN j 5 := by
  unfold wordsN; rw [wordsG_len, hl]
theorem small_words {j : Nat} (hj : j < 29) {data : List Nat} (hs : Small data) : Small (wordsN j data) := by
  rw [words_eq hj hs]
  exact small_app hs (small_of_mem fun p hp => by
    obtain ⟨e, _, rfl⟩ := List.mem_map.1 hp
    exact eccOut_small _ _ _)

/-- what the closure leaves: numbers in the captured result -/
def IntsR (po base : Nat) (xs : List Nat) (wq : World) (b : Bool) (w' : World) : Prop :=
  b = true ∧ ∃ g cap, Ints w' g xs ∧ base ≤ g ∧ w'.heap[po]? = some (.cells #[.slice (some ⟨g, 0, none⟩) xs.length cap] 28) ∧ But po wq w'
def IntsIn (po base : Nat) (xs : List Nat) (wq : World) (e : Ending) (w' : World) : Prop := ∃ b, e = .returned (.bool b) ∧ IntsR po base xs wq b w'

set_option maxRecDepth 100000 in
set_option maxHeartbeats 2000000 in
theorem checkClo_calls {wq : World} {pr pc pb po cb cap j : Nat} {data : List Nat} (hj : j < 29) (hpr : wq.cell? ⟨pr, 0, none⟩ = some (.int .i64 (syN j 0))) (hpc : wq.cell? ⟨pc, 0, none⟩ = some (.int .i64 (syN j 1)))
    (hpb : wq.cell? ⟨pb, 0, none⟩ = some (.slice (some ⟨cb, 0, none⟩) data.length cap)) (hpbl : pb < wq.heap.size) (hpo : wq.heap[po]? = some (.cells #[.slice none 0 0] 28)) (hl : data.length = syN j 4) (hs : Small data) (hcw : Bytes wq cb data) :
    Calls Tryz.prog 57 #[.pointer (some ⟨pr, 0, none⟩), .pointer (some ⟨pc, 0, none⟩), .pointer (some ⟨pb, 0, none⟩), .pointer (some ⟨po, 0, none⟩)] wq (IntsIn po wq.heap.size (wordsN j data) wq) := by
  obtain ⟨h1, h2, h3, _⟩ := pkg_ok j hj
  have gs : ∀ w, Calls Tryz.prog 58 #[.int .i64 (syN j 0), .int .i64 (syN j 1)] w fun e w' => ∃ b, e = .returned (.tuple #[.pointer (some ⟨b, 0, none⟩), .bool true]) ∧ w'.heap[b]? = some (.cells (siOf (pkgIx j)) 112) ∧ Below w.heap.size w w' := fun w => by
    rw [← h2, ← h3]; exact implSym_calls h1 w
  have GS := Lib.hid gs
  have HPO := Lib.hid hpo
  have HCW := Lib.hid hcw
  have hwl := wordsN_len hl
  have HWL := Lib.hid hwl
  obtain ⟨b1, b2, b3, b4, _, _⟩ := sy_bd j hj
  have hpl := lt_of_blk hpo
  have HL := Lib.hid hl
  have HS := Lib.hid hs
  have h9 : 1 ≤ syN j 4 + syN j 5 ∧ syN j 4 + syN j 5 ≤ 4000 := by omega
  clear h2 h3 gs hpo hcw hwl hl hs
  go_enter Tryz.func57, Tryz.ntmps57
  go_wp2_with (first | (go_at_call 58; refine (GS.out _).mono ?_; rintro e w1 ⟨b, rfl, hsi, hb⟩; have kb := (hb.cell (p := ⟨pb, 0, none⟩) hpbl).trans hpb; have HSI := Lib.hid hsi; have HB := Lib.hid hb; have HC1 := Lib.hid (HCW.out.below hb HCW.out.1); clear hsi hb) | (go_at_call 59; refine ((encAll_calls hj HSI.out HL.out HS.out HC1.out).mono fun e w' ⟨v, k1, k2, k3⟩ => RowPost.of (by rw [HWL.out]; exact h9.1) k1 k2 k3).mono ?_; rintro e w2 ⟨g2, c2, rfl, o2, hb2⟩; have HO2 := Lib.hid o2; have HB2 := Lib.hid (HB.out.trans (hb2.mono HB.out.size)); clear o2 hb2) | (go_at_call 47; refine (ints_calls HO2.out (small_words hj HS.out) (by rw [HWL.out]; exact h9.1) (by rw [HWL.out]; exact h9.2)).mono ?_; rintro e w3 ⟨g3, c3, rfl, hg3, o3, hb3⟩; have HO3 := Lib.hid o3; have HB3 := Lib.hid (HB2.out.trans (hb3.mono HB2.out.size)); have kp := ((HB2.out.trans (hb3.mono HB2.out.size)).block po hpl).trans HPO.out; have k0 := cell_blk kp 0; have f0 := frozen_blk kp 0; have HKP := Lib.hid kp; clear o3 hb3 kp))
  go_ret
  have z2 := HB2.out.size
  refine ⟨true, rfl, rfl, g3, c3, HO3.out.set_ne (by simp; omega) _, by omega, ?_, ?_⟩
  · rw [heap_setCell_at HKP.out]; rfl
  · exact ⟨(HB3.out.mono (B' := po) (Nat.le_of_lt hpl)).setCell (Nat.le_refl _) _, fun x hx hne => (Below.heap_setCell _ _ _ _ hne).trans (HB3.out.block x hx)⟩
end Go.Proofs.YtcnallabiffemaaGreatDoor

/- impl.Check; the law FnCheck: the walk. -/
set_option linter.unusedVariables false
set_option linter.unusedSimpArgs false
namespace Go.Proofs.YtcnallabiffemaaGreatDoor
open Go.RowKit

theorem enter57 (a b c d : Value) : ∀ w, (callFunc 57 #[a, b, c, d]).run Tryz.prog w = .ok (.enter 57 #[a, b, c, d]) w := fun _ => by kernel_rfl
def ChkTry (po : Nat) (xs : List Nat) (w : World) (e : Ending) (w' : World) : Prop :=
  ∃ g cap, e = .returned (.bool true) ∧ Ints w' g xs ∧ po < g ∧ w'.heap[po]? = some (.cells #[.slice (some ⟨g, 0, none⟩) xs.length cap] 28) ∧ Below w.heap.size w w'
theorem chk_try {w w3 : World} {pr pc pb po cb cap j : Nat} {data : List Nat} (hj : j < 29) (hpr : w3.heap[pr]? = some (.cells #[.int .i64 (syN j 0)] 3)) (hpc : w3.heap[pc]? = some (.cells #[.int .i64 (syN j 1)] 3))
    (hpb : w3.heap[pb]? = some (.cells #[.slice (some ⟨cb, 0, none⟩) data.length cap] 49)) (hpo : w3.heap[po]? = some (.cells #[.slice none 0 0] 28)) (hl : data.length = syN j 4) (hs : Small data) (hcw : Bytes w3 cb data)
    (hb : Below w.heap.size w w3) (hwp : w.heap.size ≤ po) :
    Calls Tryz.prog 28 #[.func (.func 57) #[] #[.pointer (some ⟨pr, 0, none⟩), .pointer (some ⟨pc, 0, none⟩), .pointer (some ⟨pb, 0, none⟩), .pointer (some ⟨po, 0, none⟩)]] w3 (ChkTry po (wordsN j data) w) := by
  have lr := lt_of_blk hpr
  have lc := lt_of_blk hpc
  have lb := lt_of_blk hpb
  have lo := lt_of_blk hpo
  have k1 : (w3.alloc (.cells #[.bool false] 4)).heap[po]? = _ := (Below.heap_alloc _ _ _ lo).trans hpo
  refine (try_calls (R := fun b w' => IntsR po (w3.heap.size + 1) (wordsN j data) (w3.alloc (.cells #[.bool false] 4)) b w') (enter57 _ _ _ _) ((checkClo_calls (data := data) (cb := cb) (cap := cap) hj (by rw [cell_blk ((Below.heap_alloc _ _ _ lr).trans hpr)]; rfl) (by rw [cell_blk ((Below.heap_alloc _ _ _ lc).trans hpc)]; rfl) (by rw [cell_blk ((Below.heap_alloc _ _ _ lb).trans hpb)]; rfl) (by simp <;> omega) k1 hl hs (hcw.alloc _)).mono ?_)).mono ?_
  · rintro e w' ⟨b, rfl, hr⟩
    have hr' : IntsR po (w3.heap.size + 1) (wordsN j data) (w3.alloc (.cells #[.bool false] 4)) b w' := by simpa using hr
    refine ⟨b, rfl, ?_, hr'⟩
    obtain ⟨_, g, c, _, _, _, hbut⟩ := hr
    exact (hbut.rest _ (by simp) (by omega)).trans (new_last rfl _)
  · rintro e w'' ⟨b, w2, rfl, hr, rfl⟩
    obtain ⟨rfl, g, c, h1, h2, h3, hbut⟩ := hr
    refine ⟨g, c, rfl, h1.set_ne (by simp <;> omega) _, by omega, ?_, ?_⟩
    · rw [Below.heap_setCell _ _ _ _ (by simp <;> omega)]; exact h3
    · have hz := hb.size
      exact ((hb.alloc hz _).trans (hbut.below.mono hwp)).setCell (by simpa using hz) _

def ChkPost (xs : List Nat) (w : World) (e : Ending) (w' : World) : Prop :=
  ∃ g cap, e = .returned (.tuple #[.slice (some ⟨g, 0, none⟩) xs.length cap, .bool true]) ∧ Ints w' g xs ∧ Below w.heap.size w w'
set_option maxRecDepth 100000 in
set_option maxHeartbeats 2000000 in
theorem implCheck_calls {w : World} {j db dcap : Nat} {data : List Nat} (hj : j < 29) (hx : Ints w db data) (hs : Small data) (hl : data.length = syN j 4) :
    Calls Tryz.prog 24 #[.slice (some ⟨db, 0, none⟩) data.length dcap, .int .i64 (syN j 0), .int .i64 (syN j 1)] w (ChkPost (wordsN j data) w) := by
  have hmf : ∀ (fn : Fn) (first cap : Array Value) (w : World), (Instr.makeFunc fn first cap).run Tryz.prog w = .ok (.func fn first cap) w := fun _ _ _ _ => rfl
  obtain ⟨b1, b2, _⟩ := sy_bd j hj
  have hb0 : Below w.heap.size w (((w.alloc (.cells #[.int .i64 (syN j 0)] 3)).alloc (.cells #[.int .i64 (syN j 1)] 3)).alloc (.cells #[.slice none 0 0] 28)) := (((Below.refl _ _).alloc (Nat.le_refl _) _).alloc (by simp) _).alloc (by simp <;> omega) _
  have c1 : (((w.alloc (.cells #[.int .i64 (syN j 0)] 3)).alloc (.cells #[.int .i64 (syN j 1)] 3)).alloc (.cells #[.slice none 0 0] 28)).heap[w.heap.size]? = some (.cells #[.int .i64 (syN j 0)] 3) := (Below.heap_alloc _ _ _ (by simp <;> omega)).trans ((Below.heap_alloc _ _ _ (by simp)).trans (new_last rfl _))
  have c2 : (((w.alloc (.cells #[.int .i64 (syN j 0)] 3)).alloc (.cells #[.int .i64 (syN j 1)] 3)).alloc (.cells #[.slice none 0 0] 28)).heap[w.heap.size + 1]? = some (.cells #[.int .i64 (syN j 1)] 3) := (Below.heap_alloc _ _ _ (by simp)).trans (new_last (by simp) _)
  have c3 : (((w.alloc (.cells #[.int .i64 (syN j 0)] 3)).alloc (.cells #[.int .i64 (syN j 1)] 3)).alloc (.cells #[.slice none 0 0] 28)).heap[w.heap.size + 1 + 1]? = some (.cells #[.slice none 0 0] 28) := new_last (by simp) _
  have B0 := Lib.hid hb0
  have C1 := Lib.hid c1
  have C2 := Lib.hid c2
  have C3 := Lib.hid c3
  have HX := Lib.hid hx
  have HL := Lib.hid hl
  have HS := Lib.hid hs
  have d1 : 1 ≤ data.length := by omega
  have d2 : data.length ≤ 4000 := by omega
  clear hb0 c1 c2 c3 hx hl hs b1 b2
  go_enter Tryz.func24, Tryz.ntmps24
  go_wp2_with (first | (go_at_call 52; (refine (octets_calls (((HX.out.alloc _).alloc _).alloc _) HS.out d1 d2).mono ?_; rintro e w1 ⟨g1, cap1, rfl, hg1, ho1, hb⟩; have hz := hb.size; simp only [alloc_heap, Array.size_push] at hz; have D0 := Lib.hid (new_last (w := w1) rfl (.cells #[.slice (some ⟨g1, 0, none⟩) data.length cap1] 49)); have D1 := Lib.hid ((Below.heap_alloc w1 (.cells #[.slice (some ⟨g1, 0, none⟩) data.length cap1] 49) _ (by omega)).trans ((hb.block _ (by simp <;> omega)).trans C1.out)); have D2 := Lib.hid ((Below.heap_alloc w1 (.cells #[.slice (some ⟨g1, 0, none⟩) data.length cap1] 49) _ (by omega)).trans ((hb.block _ (by simp <;> omega)).trans C2.out)); have D3 := Lib.hid ((Below.heap_alloc w1 (.cells #[.slice (some ⟨g1, 0, none⟩) data.length cap1] 49) _ (by omega)).trans ((hb.block _ (by simp)).trans C3.out)); have DB := Lib.hid ((B0.out.trans (hb.mono (by simp <;> omega))).alloc (by omega) (.cells #[.slice (some ⟨g1, 0, none⟩) data.length cap1] 49)); have DC := Lib.hid (ho1.alloc (.cells #[.slice (some ⟨g1, 0, none⟩) data.length cap1] 49)); clear ho1 hb hg1)) | (go_at_call 28; (refine (chk_try (w := w) (pr := w.heap.size) (pc := w.heap.size + 1) (pb := w1.heap.size) (po := w.heap.size + 1 + 1) hj D1.out D2.out D0.out D3.out HL.out HS.out DC.out DB.out (by omega)).mono ?_; rintro e w4 ⟨g, cap, rfl, hi, hpg, hpo, hb4⟩; have k : w4.cell? ⟨w.heap.size + 1 + 1, 0, none⟩ = some (.slice (some ⟨g, 0, none⟩) (wordsN j data).length cap) := (cell_blk hpo 0).trans rfl; have f := frozen_blk hpo 0; have HPO := Lib.hid hpo; have HI := Lib.hid hi; have HB4 := Lib.hid hb4; clear hpo hi hb4)))
  have k2 : (w4.setCell ⟨w.heap.size + 1 + 1, 0, none⟩ (.slice (some ⟨g, 0, none⟩) (wordsN j data).length cap)).cell? ⟨w.heap.size + 1 + 1, 0, none⟩ = some (.slice (some ⟨g, 0, none⟩) (wordsN j data).length cap) := by rw [cell_blk (heap_setCell_at HPO.out 0 _)]; rfl
  refine bodyPost_ret (v := .tuple #[.slice (some ⟨g, 0, none⟩) (wordsN j data).length cap, .bool true]) (by simp [results, Tryz.results24, go_sem, k2]) rfl ⟨g, cap, rfl, HI.out.set_ne (by simp <;> omega) _, HB4.out.setCell (by simp <;> omega) _⟩
end Go.Proofs.YtcnallabiffemaaGreatDoor

/- FnCheck: the walk. -/
set_option linter.unusedVariables false
set_option linter.unusedSimpArgs false
namespace Go.Proofs.YtcnallabiffemaaGreatDoor
open Go.RowKit

theorem fnChk_big (v : Option Addr) (len cap : Nat) (s : Int) (h : 2147483647 < len) (h2 : len ≤ 9223372036854775807) (w : World) : Calls Tryz.prog 7 #[.slice v len cap, .int .i64 s] w (TruePost w) := by
  have g1 : (2147483647 : Int) < (len : Int) := by omega
  go_enter Tryz.func7, Tryz.ntmps7
  go_wp2
  go_ret
  exact ⟨rfl, Below.refl _ _⟩

set_option maxHeartbeats 2000000 in
theorem fnChk_out (v : Option Addr) (len cap : Nat) (s : Int) (h : len = 0 ∨ 1000 < len) (h2 : len ≤ 2147483647) (w : World) : Calls Tryz.prog 7 #[.slice v len cap, .int .i64 s] w (TruePost w) := by
  have g1 : ¬ (2147483647 : Int) < (len : Int) := by omega
  by_cases h0 : len = 0
  · subst h0
    go_enter Tryz.func7, Tryz.ntmps7
    go_wp2_with (first | (go_at_call 20; refine (symAt_calls _ _).mono ?_; rintro e w1 ⟨rfl, hb⟩; have HB := Lib.hid hb; clear hb; unfold syV) | (go_at_call 9; refine (works_calls _).mono ?_; rintro e w5 ⟨rfl, hb5⟩; have HB5 := Lib.hid hb5; clear hb5))
    go_ret
    have z := HB.out.size
    exact ⟨rfl, (HB.out.alloc z _).trans (HB5.out.mono (by simp <;> omega))⟩
  · have g2 : ¬ (len : Int) = 0 := by omega
    have g3 : (1000 : Int) < (len : Int) := by omega
    go_enter Tryz.func7, Tryz.ntmps7
    go_wp2_with (first | (go_at_call 20; refine (symAt_calls _ _).mono ?_; rintro e w1 ⟨rfl, hb⟩; have HB := Lib.hid hb; clear hb; unfold syV) | (go_at_call 9; refine (works_calls _).mono ?_; rintro e w5 ⟨rfl, hb5⟩; have HB5 := Lib.hid hb5; clear hb5))
    go_ret
    have z := HB.out.size
    exact ⟨rfl, (HB.out.alloc z _).trans (HB5.out.mono (by simp <;> omega))⟩

def symC (j : Nat) : Obj := .cells #[.int .i64 (syN j 0), .int .i64 (syN j 1), .int .i64 (syN j 2), .int .i64 (syN j 3), .int .i64 (syN j 4), .int .i64 (syN j 5), .int .i64 (syN j 6)] 30
theorem drew_lt {w1 w2 : World} {o : Obj} {xs : List Int} (hr : Row w2 ((w1.alloc o).heap.size + 1) .i64 3 xs) : w1.heap.size + 1 < w2.heap.size := by
  have := hr.lt
  rw [alloc_heap, Array.size_push] at this
  omega
theorem drew_ints {w1 w2 : World} {o : Obj} {xs : List Nat} (hr : Row w2 ((w1.alloc o).heap.size + 1) .i64 3 (nl xs)) : Ints w2 (w1.heap.size + 1 + 1) xs := by
  have := Ints.of_row hr
  rw [alloc_heap, Array.size_push] at this
  exact this
theorem lt_of_cell {w : World} {b i : Nat} {v : Value} (h : w.cell? ⟨b, i, none⟩ = some v) : b < w.heap.size := by
  rcases Nat.lt_or_ge b w.heap.size with h1 | h1
  · exact h1
  · simp [World.cell?, Array.getElem?_eq_none h1] at h
set_option maxRecDepth 100000 in
set_option maxHeartbeats 4000000 in
theorem fnChk_in {zs : List Int} {sb so cap : Nat} (s : Int) {w : World} (hc : ∀ j, j < zs.length → w.cell? ⟨sb, so + j, none⟩ = some (.int .i64 (zs.getD j 0))) (h1 : 1 ≤ zs.length) (h2 : zs.length ≤ 1000) :
    Calls Tryz.prog 7 #[.slice (some ⟨sb, so, none⟩) zs.length cap, .int .i64 s] w (TruePost w) := by
  have hsb : sb < w.heap.size := lt_of_cell (hc 0 (by omega))
  obtain ⟨_, hi⟩ := symIx_ok s
  obtain ⟨L, hL⟩ : ∃ L, L = zs.length := ⟨_, rfl⟩
  have g1 : ¬ (2147483647 : Int) < (L : Int) := by omega
  have g2 : ¬ (L : Int) = 0 := by omega
  have g3 : ¬ (1000 : Int) < (L : Int) := by omega
  have g4 : ((L : Int) == 0) = false := by rw [beq_eq_false_iff_ne]; exact g2
  have A := symAt_calls s w
  have D : ∀ (w : World), (∀ j, j < zs.length → w.cell? ⟨sb, so + j, none⟩ = some (.int .i64 (zs.getD j 0))) → sb < w.heap.size → Calls Tryz.prog 21 #[syV (symIx s), .slice (some ⟨sb, so, none⟩) L cap] w (DrawnPost (drawnN zs (syN (symIx s) 4)) w) := fun _ hc hs => hL ▸ drawn_calls hc hs h1 h2 hi
  rw [← hL]
  have HC := Lib.hid hc
  have DD := Lib.hid D
  have HL := Lib.hid hL
  obtain ⟨j, hj⟩ : ∃ j, j = symIx s := ⟨_, rfl⟩
  rw [← hj] at hi A DD
  obtain ⟨data, hdd⟩ : ∃ data, data = drawnN zs (syN j 4) := ⟨_, rfl⟩
  have hdl : data.length = syN j 4 := by rw [hdd]; simp
  have hds : Small data := by rw [hdd]; exact small_drawn _ _
  rw [← hdd] at DD
  have hcw := wordsN_len hdl
  have hsw := small_words hi hds
  obtain ⟨b1, b2, b3, b4, _⟩ := sy_bd j hi
  have hwl : (wordsN j data).length ≤ 4000 := by omega
  have HDL := Lib.hid hdl
  have HDS := Lib.hid hds
  clear hdl hds hcw hdd hj hL hc D b1 b2 b3 b4
  go_enter Tryz.func7, Tryz.ntmps7
  go_wp2_with (first
    | (go_at_call 20; refine A.mono ?_; rintro e w1 ⟨rfl, hb⟩; have hz := hb.size; have HB := Lib.hid hb; have HC1 := Lib.hid (show ∀ i, i < zs.length → (w1.alloc (symC j)).cell? ⟨sb, so + i, none⟩ = some (.int .i64 (zs.getD i 0)) from fun i hi => ((hb.alloc hz _).cell (p := ⟨sb, so + i, none⟩) hsb).trans (HC.out i hi)); have HS1 := Lib.hid (show (w1.alloc (symC j)).heap[w1.heap.size]? = some (symC j) from new_last rfl _); have HB1 := Lib.hid (hb.alloc hz (symC j)); clear hb A HC; unfold syV)
    | (go_at_call 21; refine (DD.out _ HC1.out (Nat.lt_of_lt_of_le hsb HB1.out.size)).mono ?_; rintro e w2 ⟨rfl, hr, hb⟩; have HX2 := Lib.hid (drew_ints hr); have hs2 := (hb.block _ (by simp)).trans HS1.out; obtain ⟨l0, l1, l2, l3, l4, l5, l6⟩ := cells7 hs2; have hw2 : w1.heap.size + 1 < w2.heap.size := drew_lt hr; have HB2 := Lib.hid (HB1.out.trans (hb.mono HB1.out.size)); have HS2 := Lib.hid hs2; clear hr hb hs2 HB1 HS1 HC1)
    | (go_at_call 24; refine (implCheck_calls hi HX2.out HDS.out HDL.out).mono ?_; rintro e w3 ⟨g3, cap3, rfl, hx3, hb3⟩; have HX3 := Lib.hid hx3; have HB3 := Lib.hid hb3; have HXD := Lib.hid (HX2.out.below hb3 HX2.out.1); have hs3 := (hb3.block _ (by omega)).trans HS2.out; obtain ⟨m0, m1, m2, m3, m4, m5, m6⟩ := cells7 hs3; clear hx3 hb3 hs3)
    | (go_at_call 16; refine (words_calls HXD.out HDS.out HDL.out hi).mono ?_; rintro e w4 ⟨g4, cap4, rfl, hg4, hx4, hb4⟩; have HX4 := Lib.hid hx4; have HY4 := Lib.hid (HX3.out.below hb4 HX3.out.1); have HB4 := Lib.hid hb4; clear hx4 hb4)
    | (go_at_call 15; refine (same_calls HY4.out HX4.out hwl).mono ?_; rintro e w5 ⟨rfl, n5, rfl⟩)
    | (go_at_call 9; refine (works_calls _).mono ?_; rintro e w6 ⟨rfl, hb6⟩; have HB6 := Lib.hid hb6; clear hb6))
  go_ret
  have z2 := HB2.out.size
  have z3 := HB3.out.size
  have z4 := HB4.out.size
  exact ⟨rfl, (below_dr (HB2.out.trans ((HB3.out.mono z2).trans (HB4.out.mono (by omega)))) n5).trans (HB6.out.mono (show w.heap.size ≤ w4.heap.size by omega))⟩
end Go.Proofs.YtcnallabiffemaaGreatDoor
