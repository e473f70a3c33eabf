/- What the writer paints: the regions' borders around the placement. -/
import Derived.Test.YtcnallabiffemaaGreatDoorF3
set_option linter.unusedVariables false
set_option linter.unusedSimpArgs false
namespace Go.Proofs.YtcnallabiffemaaGreatDoor
open Go.RowKit

/-- the start of the data row or column behind its border -/
def spot (m y : Nat) : Nat := y + 2 * (y / m)
def start (m y : Nat) : Nat := spot m y + (if y % m = 0 then 0 else 1)

section
variable {m : Nat} (hm : 0 < m)
include hm
theorem spot_mod (y : Nat) : (spot m y + 1) % (m + 2) = y % m + 1 ∧ (spot m y + 1) / (m + 2) = y / m := by
  have h1 := Nat.mod_lt y hm
  have h2 := Nat.div_add_mod y m
  have e : spot m y + 1 = (y % m + 1) + (m + 2) * (y / m) := by unfold spot; rw [Nat.add_mul]; omega
  rw [e]
  constructor
  · rw [Nat.add_mul_mod_self_left, Nat.mod_eq_of_lt (by omega)]
  · rw [Nat.add_mul_div_left _ _ (by omega), Nat.div_eq_of_lt (by omega), Nat.zero_add]
theorem spot_first {y : Nat} (h : y % m = 0) : spot m y % (m + 2) = 0 := by
  have _h0 := hm
  have h2 := Nat.div_add_mod y m
  have e : spot m y = (m + 2) * (y / m) := by unfold spot; rw [Nat.add_mul]; omega
  rw [e, Nat.mul_mod_right]
theorem spot_last {y : Nat} (h : y % m = m - 1) : (spot m y + 2) % (m + 2) = m + 1 := by
  have h2 := Nat.div_add_mod y m
  have e : spot m y + 2 = (m + 1) + (m + 2) * (y / m) := by unfold spot; rw [Nat.add_mul]; omega
  rw [e, Nat.add_mul_mod_self_left, Nat.mod_eq_of_lt (by omega)]
theorem spot_lt {y n : Nat} (h : y < n * m) : spot m y + 2 < n * (m + 2) := by
  have h2 : y / m < n := (Nat.div_lt_iff_lt_mul hm).2 h
  unfold spot; rw [Nat.mul_add]; omega
theorem start_next {y : Nat} (h : y % m ≠ m - 1) : start m (y + 1) = spot m y + 2 := by
  have h1 := Nat.mod_lt y hm
  have h2 := Nat.div_add_mod y m
  have e : y + 1 = (y % m + 1) + m * (y / m) := by omega
  have e1 : (y + 1) / m = y / m := by rw [e, Nat.add_mul_div_left _ _ hm, Nat.div_eq_of_lt (by omega), Nat.zero_add]
  have e2 : (y + 1) % m = y % m + 1 := by rw [e, Nat.add_mul_mod_self_left, Nat.mod_eq_of_lt (by omega)]
  unfold start spot; rw [e1, e2, if_neg (by omega)]; omega
theorem start_jump {y : Nat} (h : y % m = m - 1) : start m (y + 1) = spot m y + 3 := by
  have h2 := Nat.div_add_mod y m
  have e : y + 1 = m * (y / m + 1) := by rw [Nat.mul_add, Nat.mul_one]; omega
  have e1 : (y + 1) / m = y / m + 1 := by rw [e, Nat.mul_div_cancel_left _ hm]
  have e2 : (y + 1) % m = 0 := by rw [e, Nat.mul_mod_right]
  unfold start spot; rw [e1, e2, if_pos rfl]; omega
theorem start_end (n : Nat) : start m (n * m) = n * (m + 2) := by
  unfold start spot; rw [Nat.mul_div_cancel _ hm, Nat.mul_mod_left, if_pos rfl, Nat.mul_add]; omega
end
theorem start_zero (m : Nat) : start m 0 = 0 := by simp [start, spot]

/-- the module at column X of row Y -/
def modT (mw mh dw : Nat) (bits : List Int) (Y X : Nat) : Int :=
  if Y % (mh + 2) = 0 then b2i ((X : Int) % 2 == 0) else if Y % (mh + 2) = mh + 1 then 1
  else if X % (mw + 2) = 0 then 1
  else if X % (mw + 2) = mw + 1 then b2i (((Y / (mh + 2) * mh + (Y % (mh + 2) - 1) : Nat) : Int) % 2 == 0)
  else b2i (bits.getD ((Y / (mh + 2) * mh + (Y % (mh + 2) - 1)) * dw + (X / (mw + 2) * mw + (X % (mw + 2) - 1))) 0 == 1)

section
variable {mw mh dw : Nat} {bits : List Int} (hw : 0 < mw) (hh : 0 < mh)
include hh
theorem modT_top {y : Nat} (h : y % mh = 0) (X : Nat) : modT mw mh dw bits (spot mh y) X = b2i ((X : Int) % 2 == 0) := by
  unfold modT; rw [spot_first hh h, if_pos rfl]
theorem modT_bot {y : Nat} (h : y % mh = mh - 1) (X : Nat) : modT mw mh dw bits (spot mh y + 2) X = 1 := by
  unfold modT; rw [spot_last hh h, if_neg (by omega), if_pos rfl]
theorem row_back (y : Nat) : (spot mh y + 1) / (mh + 2) * mh + ((spot mh y + 1) % (mh + 2) - 1) = y := by
  rw [(spot_mod hh y).1, (spot_mod hh y).2]
  have h2 := Nat.div_add_mod y mh
  rw [Nat.mul_comm]; omega
include hw
theorem modT_left (y : Nat) {x : Nat} (h : x % mw = 0) : modT mw mh dw bits (spot mh y + 1) (spot mw x) = 1 := by
  unfold modT
  have := Nat.mod_lt y hh
  rw [(spot_mod hh y).1, if_neg (by omega), if_neg (by omega), spot_first hw h, if_pos rfl]
theorem modT_right (y : Nat) {x : Nat} (h : x % mw = mw - 1) : modT mw mh dw bits (spot mh y + 1) (spot mw x + 2) = b2i ((y : Int) % 2 == 0) := by
  unfold modT
  rw [row_back hh y]
  have := Nat.mod_lt y hh
  rw [(spot_mod hh y).1, if_neg (by omega), if_neg (by omega), spot_last hw h, if_neg (by omega), if_pos rfl]
theorem modT_mid (y x : Nat) : modT mw mh dw bits (spot mh y + 1) (spot mw x + 1) = b2i (bits.getD (y * dw + x) 0 == 1) := by
  unfold modT
  rw [row_back hh y, row_back hw x]
  have := Nat.mod_lt y hh
  have := Nat.mod_lt x hw
  rw [(spot_mod hh y).1, (spot_mod hw x).1, if_neg (by omega), if_neg (by omega), if_neg (by omega), if_neg (by omega)]
end

/-- painted as far as row Y, column X -/
def Painted (sw sh : Nat) (T : Nat → Nat → Int) (M : Nat → List Int) (Y X : Nat) : Prop :=
  ∀ Y' X', X' < sw → Y' < sh → (Y' < Y ∨ Y' = Y ∧ X' < X) → (M Y').getD X' 0 = T Y' X'
theorem Painted.put {sw sh : Nat} {T : Nat → Nat → Int} {M : Nat → List Int} {Y X : Nat} (h : Painted sw sh T M Y X) (hl : (M Y).length = sw) {v : Int} (hT : T Y X = v) :
    Painted sw sh T (putM M Y X v) Y (X + 1) := by
  intro Y' X' hX hY hlt
  unfold putM
  by_cases e : Y' = Y
  · subst e
    rw [if_pos rfl, List.getD_eq_getElem?_getD, List.getElem?_set]
    by_cases e2 : X = X'
    · subst e2; rw [if_pos rfl, if_pos (by omega), ← hT]; rfl
    · rw [if_neg e2, ← List.getD_eq_getElem?_getD]
      exact h Y' X' hX hY (by omega)
  · rw [if_neg e]; exact h Y' X' hX hY (by omega)
theorem Painted.row {sw sh : Nat} {T : Nat → Nat → Int} {M : Nat → List Int} {Y : Nat} (h : Painted sw sh T M Y sw) : Painted sw sh T M (Y + 1) 0 :=
  fun Y' X' hX hY hlt => h Y' X' hX hY (by omega)
theorem Painted.zero (sw sh : Nat) (T : Nat → Nat → Int) (M : Nat → List Int) : Painted sw sh T M 0 0 := fun _ _ _ _ h => by omega

/-- the painting in memory -/
structure Paint (w wr : World) (B sw sh : Nat) (T : Nat → Nat → Int) (Y X : Nat) (M : Nat → List Int) : Prop where
  mat : BMat wr B sw sh M
  done : Painted sw sh T M Y X
  below : Below w.heap.size w wr
  base : w.heap.size ≤ B
theorem Paint.drewN {w wr : World} {B sw sh : Nat} {T : Nat → Nat → Int} {Y X : Nat} {M : Nat → List Int} (h : Paint w wr B sw sh T Y X M) (n : Nat) : Paint w (wr.drewN n) B sw sh T Y X M :=
  ⟨h.mat.drewN n, h.done, below_dr h.below n, h.base⟩
theorem Paint.row {w wr : World} {B sw sh : Nat} {T : Nat → Nat → Int} {Y : Nat} {M : Nat → List Int} (h : Paint w wr B sw sh T Y sw M) : Paint w wr B sw sh T (Y + 1) 0 M :=
  ⟨h.mat, h.done.row, h.below, h.base⟩

theorem setI {w wr : World} {B sw sh : Nat} {T : Nat → Nat → Int} {Y X : Nat} {M : Nat → List Int} (h : Paint w wr B sw sh T Y X M) (v : Bool) (xi yi : Int)
    (ex : xi = (X : Int)) (ey : yi = (Y : Int)) (hx : X < sw) (hy : Y < sh) (hw : sw ≤ 1000) (hh : sh ≤ 1000) (hT : T Y X = b2i v) :
    Calls Tryz.prog 117 #[.pointer (some ⟨B + 1 + sh, 0, none⟩), .int .i64 xi, .int .i64 yi, .bool v] wr fun e w' => e = .returned (.tuple #[]) ∧ ∃ M', Paint w w' B sw sh T Y (X + 1) M' := by
  subst ex ey
  exact (setBool_calls h.mat X Y v hx hy hw hh).mono fun e w' ⟨h1, h2, h3⟩ => ⟨h1, _, h2, h.done.put (h.mat.len Y hy) hT, h.below.trans (h3.mono h.base), h.base⟩

theorem PMem.below' {w0 w w' : World} {b bb cb cap rows cols B : Nat} {cw : List Nat} {bits : List Int} (h : PMem w0 w b bb cb cap rows cols cw bits) (hb : Below B w w')
    (h0 : w0.heap.size ≤ B) (h1 : b < B) (h2 : bb < B) (h3 : cb < B) : PMem w0 w' b bb cb cap rows cols cw bits :=
  ⟨(hb.block _ h1).trans h.blk, h.row.below hb h2, h.byt.below hb h3, h.below.trans (hb.mono h0), h.base, h.n1, h.n2, h.len, h.r0, h.r1, h.c0, h.c1⟩

theorem lt_of_some {w : World} {s : Nat} {o : Obj} (h : w.heap[s]? = some o) : s < w.heap.size := by
  rcases Nat.lt_or_ge s w.heap.size with h2 | h2
  · exact h2
  · rw [Array.getElem?_eq_none h2] at h; cases h
theorem start_paint {w wm : World} {sw sh n : Nat} {T : Nat → Nat → Int} {M : Nat → List Int} (h : BMat wm (w.drewN n).heap.size sw sh M) (hb : Below (w.drewN n).heap.size (w.drewN n) wm) : Paint w wm w.heap.size sw sh T 0 0 M :=
  ⟨h, Painted.zero _ _ _ _, ⟨hb.os, hb.tape, hb.output, hb.size, hb.block⟩, Nat.le_refl _⟩

theorem mwget_calls (b i : Nat) (w : World) (h : w.heap[b]? = some (.cells (siOf i) 112)) :
    Calls Tryz.prog 118 #[.pointer (some ⟨b, 0, none⟩)] w fun e w' => e = .returned (.int .i64 (mwOf i)) ∧ w' = w := by
  have c := si_mw h
  clear h
  go_enter Tryz.func118, Tryz.ntmps118
  go_wp2
  go_ret
  exact ⟨rfl, rfl⟩
theorem mhget_calls (b i : Nat) (w : World) (h : w.heap[b]? = some (.cells (siOf i) 112)) :
    Calls Tryz.prog 116 #[.pointer (some ⟨b, 0, none⟩)] w fun e w' => e = .returned (.int .i64 (mhOf i)) ∧ w' = w := by
  have c := si_mh h
  clear h
  go_enter Tryz.func116, Tryz.ntmps116
  go_wp2
  go_ret
  exact ⟨rfl, rfl⟩
end Go.Proofs.YtcnallabiffemaaGreatDoor
