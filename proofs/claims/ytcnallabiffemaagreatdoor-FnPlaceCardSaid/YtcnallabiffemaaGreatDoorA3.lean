/- What a symbol's getters answer. -/
import Derived.Test.YtcnallabiffemaaGreatDoorA2
set_option linter.unusedVariables false
set_option linter.unusedSimpArgs false
namespace Go.Proofs.YtcnallabiffemaaGreatDoor
open Go.RowKit

def vReg (dr : Int) : Int := if dr = 1 ∨ dr = 2 then 1 else if dr = 4 then 2 else if dr = 16 then 4 else if dr = 36 then 6 else 0
def hReg (dr : Int) : Int := if dr = 1 then 1 else if dr = 2 ∨ dr = 4 then 2 else if dr = 16 then 4 else if dr = 36 then 6 else 0
def okReg (dr : Int) : Prop := dr = 1 ∨ dr = 2 ∨ dr = 4 ∨ dr = 16 ∨ dr = 36

theorem vreg_calls (b : Nat) (dr : Int) (w : World) (ho : okReg dr) (h : w.cell? ⟨b, 5, none⟩ = some (.int .i64 dr)) :
    Calls Tryz.prog 74 #[.pointer (some ⟨b, 0, none⟩)] w fun e w' => e = .returned (.int .i64 (vReg dr)) ∧ w = w' := by
  rcases ho with rfl | rfl | rfl | rfl | rfl
  all_goals
    go_enter Tryz.func74, Tryz.ntmps74
    go_wp2
    go_ret
    exact ⟨rfl, rfl⟩

theorem hreg_calls (b : Nat) (dr : Int) (w : World) (ho : okReg dr) (h : w.cell? ⟨b, 5, none⟩ = some (.int .i64 dr)) :
    Calls Tryz.prog 75 #[.pointer (some ⟨b, 0, none⟩)] w fun e w' => e = .returned (.int .i64 (hReg dr)) ∧ w = w' := by
  rcases ho with rfl | rfl | rfl | rfl | rfl
  all_goals
    go_enter Tryz.func75, Tryz.ntmps75
    go_wp2
    go_ret
    exact ⟨rfl, rfl⟩

theorem vreg_same (b : Nat) (dr : Int) (w : World) (ho : okReg dr) (h : w.cell? ⟨b, 5, none⟩ = some (.int .i64 dr)) :
    Calls Tryz.prog 74 #[.pointer (some ⟨b, 0, none⟩)] w fun e w' => e = .returned (.int .i64 (vReg dr)) ∧ w' = w := (vreg_calls b dr w ho h).mono fun _ _ ⟨h1, h2⟩ => ⟨h1, h2.symm⟩
theorem hreg_same (b : Nat) (dr : Int) (w : World) (ho : okReg dr) (h : w.cell? ⟨b, 5, none⟩ = some (.int .i64 dr)) :
    Calls Tryz.prog 75 #[.pointer (some ⟨b, 0, none⟩)] w fun e w' => e = .returned (.int .i64 (hReg dr)) ∧ w' = w := (hreg_calls b dr w ho h).mono fun _ _ ⟨h1, h2⟩ => ⟨h1, h2.symm⟩

def regOf (i : Nat) : Int := (symTab.getD i (false, 0, 0, 0, 0, 0, 0, 0)).2.2.2.2.2.1
def mwOf (i : Nat) : Int := (symTab.getD i (false, 0, 0, 0, 0, 0, 0, 0)).2.2.2.1
def mhOf (i : Nat) : Int := (symTab.getD i (false, 0, 0, 0, 0, 0, 0, 0)).2.2.2.2.1
def checkOf (i : Nat) : Int := (symTab.getD i (false, 0, 0, 0, 0, 0, 0, 0)).2.2.1
def rbdOf (i : Nat) : Int := (symTab.getD i (false, 0, 0, 0, 0, 0, 0, 0)).2.2.2.2.2.2.1
def rbeOf (i : Nat) : Int := (symTab.getD i (false, 0, 0, 0, 0, 0, 0, 0)).2.2.2.2.2.2.2

theorem okReg_of {i : Nat} (hi : i < 30) : okReg (regOf i) := by
  have : ∀ i, i < 30 → (regOf i = 1 ∨ regOf i = 2 ∨ regOf i = 4 ∨ regOf i = 16 ∨ regOf i = 36) := by decide +kernel
  exact this i hi
theorem mw_bd {i : Nat} (hi : i < 30) : 6 ≤ mwOf i ∧ mwOf i ≤ 24 ∧ 6 ≤ mhOf i ∧ mhOf i ≤ 24 := by
  have : ∀ i, i < 30 → (6 ≤ mwOf i ∧ mwOf i ≤ 24 ∧ 6 ≤ mhOf i ∧ mhOf i ≤ 24) := by decide +kernel
  exact this i hi
theorem reg_bd {dr : Int} (h : okReg dr) : 1 ≤ vReg dr ∧ vReg dr ≤ 6 ∧ 1 ≤ hReg dr ∧ hReg dr ≤ 6 := by
  rcases h with rfl | rfl | rfl | rfl | rfl <;> decide

section
variable {w : World} {b i : Nat} (h : w.heap[b]? = some (.cells (siOf i) 112))
include h
theorem si_check : w.cell? ⟨b, 2, none⟩ = some (.int .i64 (checkOf i)) := by rw [cell_blk h]; rfl
theorem si_mw : w.cell? ⟨b, 3, none⟩ = some (.int .i64 (mwOf i)) := by rw [cell_blk h]; rfl
theorem si_mh : w.cell? ⟨b, 4, none⟩ = some (.int .i64 (mhOf i)) := by rw [cell_blk h]; rfl
theorem si_reg : w.cell? ⟨b, 5, none⟩ = some (.int .i64 (regOf i)) := by rw [cell_blk h]; rfl
theorem si_rbd : w.cell? ⟨b, 6, none⟩ = some (.int .i64 (rbdOf i)) := by rw [cell_blk h]; rfl
theorem si_rbe : w.cell? ⟨b, 7, none⟩ = some (.int .i64 (rbeOf i)) := by rw [cell_blk h]; rfl
end

/-- width and height of the modules of codewords -/
def dwOf (i : Nat) : Int := hReg (regOf i) * mwOf i
def dhOf (i : Nat) : Int := vReg (regOf i) * mhOf i
/-- width and height of the symbol -/
def swOf (i : Nat) : Int := dwOf i + hReg (regOf i) * 2
def shOf (i : Nat) : Int := dhOf i + vReg (regOf i) * 2

theorem mul_bd {a b : Int} {m n : Int} (h1 : 0 ≤ a) (h2 : a ≤ m) (h3 : 0 ≤ b) (h4 : b ≤ n) : 0 ≤ a * b ∧ a * b ≤ m * n :=
  ⟨Int.mul_nonneg h1 h3, Int.mul_le_mul h2 h4 h3 (by omega)⟩

theorem dw_calls (b i : Nat) (w : World) (hi : i < 30) (h : w.heap[b]? = some (.cells (siOf i) 112)) :
    Calls Tryz.prog 63 #[.pointer (some ⟨b, 0, none⟩)] w fun e w' => e = .returned (.int .i64 (dwOf i)) ∧ ∃ n, w' = w.drewN n := by
  have c3 := si_mw h
  have c5 := si_reg h
  have ho := okReg_of hi
  obtain ⟨b1, b2, b3, b4⟩ := reg_bd ho
  obtain ⟨m1, m2, m3, m4⟩ := mw_bd hi
  obtain ⟨p1, p2⟩ := mul_bd (by omega : 0 ≤ hReg (regOf i)) b4 (by omega : 0 ≤ mwOf i) m2
  have H := Lib.hid h
  clear h
  have HO := Lib.hid ho
  clear ho
  go_enter Tryz.func63, Tryz.ntmps63
  go_wp2
  go_quiet ((go_at_call 75; exact Calls.quiet_of_same (hreg_same _ _ _ HO.out c5)))
  go_wp2
  go_ret
  exact ⟨rfl, _, rfl⟩

theorem dh_calls (b i : Nat) (w : World) (hi : i < 30) (h : w.heap[b]? = some (.cells (siOf i) 112)) :
    Calls Tryz.prog 64 #[.pointer (some ⟨b, 0, none⟩)] w fun e w' => e = .returned (.int .i64 (dhOf i)) ∧ ∃ n, w' = w.drewN n := by
  have c3 := si_mh h
  have c5 := si_reg h
  have ho := okReg_of hi
  obtain ⟨b1, b2, b3, b4⟩ := reg_bd ho
  obtain ⟨m1, m2, m3, m4⟩ := mw_bd hi
  obtain ⟨p1, p2⟩ := mul_bd (by omega : 0 ≤ vReg (regOf i)) b2 (by omega : 0 ≤ mhOf i) m4
  have H := Lib.hid h
  clear h
  have HO := Lib.hid ho
  clear ho
  go_enter Tryz.func64, Tryz.ntmps64
  go_wp2
  go_quiet ((go_at_call 74; exact Calls.quiet_of_same (vreg_same _ _ _ HO.out c5)))
  go_wp2
  go_ret
  exact ⟨rfl, _, rfl⟩

theorem blk_drewN {w : World} {n b : Nat} {o : Option Obj} (h : w.heap[b]? = o) : (w.drewN n).heap[b]? = o := h

theorem dw_bd {i : Nat} (hi : i < 30) : 8 ≤ dwOf i ∧ dwOf i ≤ 132 ∧ 6 ≤ dhOf i ∧ dhOf i ≤ 132 := by
  have : ∀ i, i < 30 → 8 ≤ dwOf i ∧ dwOf i ≤ 132 ∧ 6 ≤ dhOf i ∧ dhOf i ≤ 132 := by decide +kernel
  exact this i hi

theorem sw_calls (b i : Nat) (w : World) (hi : i < 30) (h : w.heap[b]? = some (.cells (siOf i) 112)) :
    Calls Tryz.prog 44 #[.pointer (some ⟨b, 0, none⟩)] w fun e w' => e = .returned (.int .i64 (swOf i)) ∧ ∃ n, w' = w.drewN n := by
  have ho := okReg_of hi
  obtain ⟨b1, b2, b3, b4⟩ := reg_bd ho
  obtain ⟨d1, d2, d3, d4⟩ := dw_bd hi
  have H := Lib.hid h
  clear h
  have HO := Lib.hid ho
  clear ho
  go_enter Tryz.func44, Tryz.ntmps44
  go_wp2_with (first | (go_at_call 63; refine (dw_calls _ i _ hi H.out).mono ?_; rintro e w' ⟨rfl, n, rfl⟩) | (go_at_call 75; refine (hreg_calls _ _ _ HO.out (si_reg (blk_drewN H.out))).mono ?_; rintro e w' ⟨rfl, rfl⟩))
  go_ret
  exact ⟨rfl, _, rfl⟩

theorem sh_calls (b i : Nat) (w : World) (hi : i < 30) (h : w.heap[b]? = some (.cells (siOf i) 112)) :
    Calls Tryz.prog 43 #[.pointer (some ⟨b, 0, none⟩)] w fun e w' => e = .returned (.int .i64 (shOf i)) ∧ ∃ n, w' = w.drewN n := by
  have ho := okReg_of hi
  obtain ⟨b1, b2, b3, b4⟩ := reg_bd ho
  obtain ⟨d1, d2, d3, d4⟩ := dw_bd hi
  have H := Lib.hid h
  clear h
  have HO := Lib.hid ho
  clear ho
  go_enter Tryz.func43, Tryz.ntmps43
  go_wp2_with (first | (go_at_call 64; refine (dh_calls _ i _ hi H.out).mono ?_; rintro e w' ⟨rfl, n, rfl⟩) | (go_at_call 74; refine (vreg_calls _ _ _ HO.out (si_reg (blk_drewN H.out))).mono ?_; rintro e w' ⟨rfl, rfl⟩))
  go_ret
  exact ⟨rfl, _, rfl⟩
end Go.Proofs.YtcnallabiffemaaGreatDoor
