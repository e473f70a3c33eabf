/- ErrorCorrection_EncodeECC200 for symbols of one block. -/
import Derived.Test.YtcnallabiffemaaGreatDoorD0
set_option linter.unusedVariables false
set_option linter.unusedSimpArgs false
namespace Go.Proofs.YtcnallabiffemaaGreatDoor
open Go.RowKit

def nbOf (i : Nat) : Int := dataOf i / rbdOf i
theorem nums : ∀ i, i < 29 → 3 ≤ dataOf i ∧ dataOf i ≤ 1304 ∧ 5 ≤ checkOf i ∧ checkOf i ≤ 496 ∧ 3 ≤ rbdOf i ∧ rbdOf i ≤ 1304 ∧ 5 ≤ rbeOf i ∧ rbeOf i ≤ 68 ∧ 1 ≤ nbOf i ∧ nbOf i ≤ 8 ∧ nbOf i * rbdOf i = dataOf i ∧ nbOf i * rbeOf i = checkOf i := by decide +kernel
def tOf (i : Nat) : Nat := facSets.idxOf (rbeOf i)
theorem tOf_ok : ∀ i, i < 29 → tOf i < 16 ∧ ((facN (tOf i)).length : Int) = rbeOf i := by decide +kernel

theorem si_f (w : World) (b i : Nat) (hi : i < 29) (h : w.heap[b]? = some (.cells (siOf i) 112)) : w.cell? ⟨b, 8, none⟩ = some (.func (.func 143) #[] #[]) ∧ w.cell? ⟨b, 9, none⟩ = some (.func (.func 144) #[] #[]) := by
  have h29 : i ≠ 29 := by omega
  constructor
  · rw [cell_blk h]; simp [siOf, siC, h29]
  · rw [cell_blk h]; simp [siOf, siC, h29]

theorem nb143 (b i : Nat) (w : World) (hi : i < 29) (h : w.heap[b]? = some (.cells (siOf i) 112)) :
    Calls Tryz.prog 143 #[.pointer (some ⟨b, 0, none⟩)] w fun e w' => e = .returned (.int .i64 (nbOf i)) ∧ ∃ n, w' = w.drewN n := by
  have c1 := si_data h
  have c6 := si_rbd h
  obtain ⟨n1, n2, _, _, n3, n4, _⟩ := nums i hi
  have hq : IntKind.i64.wrap ((dataOf i).tdiv (rbdOf i)) = nbOf i := IntWalk.i64_quo _ _ (by omega)
  have hne : ((rbdOf i) == 0) = false := by rw [beq_eq_false_iff_ne]; omega
  have H := Lib.hid h
  clear h
  go_enter Tryz.func143, Tryz.ntmps143
  go_wp2
  go_quiet (fail)
  go_wp2
  go_ret
  exact ⟨rfl, _, rfl⟩

theorem nb_calls (b i : Nat) (w : World) (hi : i < 29) (h : w.heap[b]? = some (.cells (siOf i) 112)) :
    Calls Tryz.prog 110 #[.pointer (some ⟨b, 0, none⟩)] w fun e w' => e = .returned (.int .i64 (nbOf i)) ∧ ∃ n, w' = w.drewN n := by
  obtain ⟨c8, _⟩ := si_f w b i hi h
  have H := Lib.hid h
  clear h
  go_enter Tryz.func110, Tryz.ntmps110
  go_wp2_with (go_at_call 143; refine (nb143 b i _ hi H.out).mono ?_; rintro e w' ⟨rfl, n, rfl⟩)
  go_ret
  exact ⟨rfl, _, rfl⟩

theorem step1 {w w1 : World} {o : Obj} {n c : Nat} (hg : (w.alloc o).grownBy w1 (Value.slice (some ⟨w.heap.size, 0, none⟩) n c).ownBlock) : Below w.heap.size w w1 :=
  ((Below.refl _ _).alloc (Nat.le_refl _) _).grown hg (by simp) (fun k hk => by simp only [Value.ownBlock, Option.some.injEq] at hk; omega)

def EncPost (out : List Nat) (w : World) (e : Ending) (w' : World) : Prop :=
  ∃ v, e = .returned (.tuple #[v, .nilIface]) ∧ Own w' w.heap.size .u8 5 v out ∧ Below w.heap.size w w'

set_option maxRecDepth 100000 in
set_option maxHeartbeats 4000000 in
theorem enc1_calls (b i cb cap : Nat) (data : List Nat) (w : World) (hi : i < 29) (h : w.heap[b]? = some (.cells (siOf i) 112)) (h1 : dataOf i = rbdOf i)
    (hl : (data.length : Int) = dataOf i) (hs : Small data) (hcw : Bytes w cb data) :
    Calls Tryz.prog 59 #[.slice (some ⟨cb, 0, none⟩) data.length cap, .pointer (some ⟨b, 0, none⟩)] w (EncPost (data ++ eccOut (facN (tOf i)) data) w) := by
  have hnb : nbOf i = 1 := by
    have : ∀ i, i < 29 → dataOf i = rbdOf i → nbOf i = 1 := by decide +kernel
    exact this i hi h1
  have hck : checkOf i = rbeOf i := by
    have : ∀ i, i < 29 → dataOf i = rbdOf i → checkOf i = rbeOf i := by decide +kernel
    exact this i hi h1
  obtain ⟨n1, n2, n3, n4, _, _, n5, n6, _⟩ := nums i hi
  obtain ⟨t1, t2⟩ := tOf_ok i hi
  have c1 := si_data h
  have c2 := si_check h
  rw [← hl] at c1
  rw [hck, ← t2] at c2
  have H := Lib.hid h
  have HNB := Lib.hid hnb
  have HCW := Lib.hid hcw
  have hn : 5 ≤ (facN (tOf i)).length ∧ (facN (tOf i)).length ≤ 68 := by omega
  have hd : 3 ≤ data.length ∧ data.length ≤ 1304 := by omega
  have hmk := make49 0 ((data.length : Int) + ((facN (tOf i)).length : Int)) (by omega) (by omega) (by omega)
  rw [show ((data.length : Int) + ((facN (tOf i)).length : Int)).toNat = data.length + (facN (tOf i)).length by omega] at hmk
  clear h hnb hck h1 hl t2 hcw n1 n2 n3 n4 n5 n6
  go_enter Tryz.func59, Tryz.ntmps59
  have hbl : b < w.heap.size := (Array.getElem?_eq_some_iff.1 H.out).1
  go_wp2_with (first | (refine app49 rfl (.tmp 34) (.tmp 35) rfl w.heap.size _ [] rfl (Own.of_room (c := data.length + (facN (tOf i)).length) (by rw [alloc_heap]; exact Array.getElem?_push_size) (by simp) (Nat.le_refl _) (by simp only [maxLen]; omega)) cb data.length cap data rfl rfl (HCW.out.alloc _) (by simp; omega) (by simp) ?_; intro v1 w1 hown1 hg1 hne1; rw [List.nil_append] at hown1; have hb1 := step1 hg1; have d1 := (hb1.cell (p := ⟨b, 1, none⟩) hbl).trans c1; have d2 := (hb1.cell (p := ⟨b, 2, none⟩) hbl).trans c2; have H1 := Lib.hid ((hb1.block b hbl).trans H.out); have HC1 := Lib.hid (HCW.out.below hb1 HCW.out.1); have HO1 := Lib.hid hown1; have HB1 := Lib.hid hb1; clear hown1 hg1 hne1 hb1) | (go_at_call 110; refine (nb_calls b i _ hi H1.out).mono ?_; rintro e w' ⟨rfl, n, rfl⟩; rw [HNB.out]) | (go_at_call 111; refine (ecc_calls (tOf i) t1 data cb cap _ (by omega) hs (Bytes.drewN HC1.out n)).mono ?_; rintro e w2 ⟨rb, hrb, rfl, hrow, hb2⟩; have HO2 := Lib.hid (Own.below (Own.drewN HO1.out n) hb2 (fun g hg => (HO1.out.lt g hg).2)); have HR2 := Lib.hid (Bytes.of_row hrow); have HB2 := Lib.hid ((below_dr HB1.out n).trans (hb2.mono HB1.out.size)); clear hrow hb2) | (refine app49 rfl (.tmp 52) (.tmp 53) rfl w.heap.size _ data rfl HO2.out rb _ _ (eccOut (facN (tOf i)) data) rfl (by rw [eccOut_len]) HR2.out (by rw [eccOut_len]; omega) HB2.out.size ?_; intro v3 w3 hown3 hg3 hne3) | (go_at_call 96; go_in) | (go_at_call 109; go_in))
  go_ret2
  exact ⟨v3, rfl, hown3, HB2.out.grown hg3 HB2.out.size (fun g hg => (HO2.out.lt g hg).1)⟩
end Go.Proofs.YtcnallabiffemaaGreatDoor
