/- hasBit, GetBit and module of the encoder's placement. -/
import Derived.Test.YtcnallabiffemaaGreatDoorE0
set_option linter.unusedVariables false
set_option linter.unusedSimpArgs false
namespace Go.Proofs.YtcnallabiffemaaGreatDoor
open Go.RowKit

theorem mul_small {row cols : Int} (hr0 : -2000 ≤ row) (hr1 : row ≤ 2000) (h0 : 0 ≤ cols) (h1 : cols ≤ 1000) : -2000000 ≤ row * cols ∧ row * cols ≤ 2000000 := by
  constructor
  · have := Int.mul_le_mul_of_nonneg_right hr0 h0; have := Int.mul_le_mul_of_nonneg_left h1 (by omega : (0 : Int) ≤ 2000); omega
  · have := Int.mul_le_mul_of_nonneg_right hr1 h0; have := Int.mul_le_mul_of_nonneg_left h1 (by omega : (0 : Int) ≤ 2000); omega

theorem hasBit_calls {w0 w : World} {b bb cb cap rows cols : Nat} {cw : List Nat} {bits : List Int} (h : PMem w0 w b bb cb cap rows cols cw bits)
    (col row : Int) (n : Nat) (hr0 : -2000 ≤ row) (hr1 : row ≤ 2000) (hc0 : -2000 ≤ col) (hc1 : col ≤ 2000) (hn : row * cols + col = (n : Int)) (hlt : n < bits.length) :
    Calls Tryz.prog 105 #[.pointer (some ⟨b, 0, none⟩), .int .i64 col, .int .i64 row] w fun e w' => e = .returned (.bool (decide (0 ≤ bits.getD n 0))) ∧ ∃ m, w' = w.drewN m := by
  have k2 := h.k2
  have k3 := h.k3
  have cx := h.row.cell hlt
  have hbl : bits.length ≤ 1000000 := by rw [h.len]; exact Nat.mul_le_mul h.r1 h.c1
  have hc := h.c1
  obtain ⟨m1, m2⟩ := mul_small hr0 hr1 (by omega : (0 : Int) ≤ (cols : Int)) (by omega)
  clear h
  generalize bits.getD n 0 = x at *
  have i1 : IntKind.i64.wrap (row * (cols : Int)) = row * (cols : Int) := IntWalk.i64_in _ (by omega)
  have i2 : IntKind.i64.wrap (row * (cols : Int) + col) = (n : Int) := by rw [hn]; exact IntWalk.i64_in _ (by omega)
  clear hn
  go_enter Tryz.func105, Tryz.ntmps105
  go_wp2
  go_quiet (fail)
  go_wp2
  go_ret
  exact ⟨rfl, _, rfl⟩

theorem getBit_calls {w0 w : World} {b bb cb cap rows cols : Nat} {cw : List Nat} {bits : List Int} (h : PMem w0 w b bb cb cap rows cols cw bits)
    (col row : Int) (n : Nat) (hr0 : -2000 ≤ row) (hr1 : row ≤ 2000) (hc0 : -2000 ≤ col) (hc1 : col ≤ 2000) (hn : row * cols + col = (n : Int)) (hlt : n < bits.length) :
    Calls Tryz.prog 56 #[.pointer (some ⟨b, 0, none⟩), .int .i64 col, .int .i64 row] w fun e w' => e = .returned (.bool (bits.getD n 0 == 1)) ∧ ∃ m, w' = w.drewN m := by
  have k2 := h.k2
  have k3 := h.k3
  have cx := h.row.cell hlt
  have hbl : bits.length ≤ 1000000 := by rw [h.len]; exact Nat.mul_le_mul h.r1 h.c1
  have hc := h.c1
  obtain ⟨m1, m2⟩ := mul_small hr0 hr1 (by omega : (0 : Int) ≤ (cols : Int)) (by omega)
  clear h
  generalize bits.getD n 0 = x at *
  have i1 : IntKind.i64.wrap (row * (cols : Int)) = row * (cols : Int) := IntWalk.i64_in _ (by omega)
  have i2 : IntKind.i64.wrap (row * (cols : Int) + col) = (n : Int) := by rw [hn]; exact IntWalk.i64_in _ (by omega)
  clear hn
  go_enter Tryz.func56, Tryz.ntmps56
  go_wp2
  go_quiet (fail)
  go_wp2
  go_ret
  exact ⟨rfl, _, rfl⟩

/-- the row and column of a module, around the edges -/
def wrapC (cols : Nat) (r c : Int) : Int × Int := if c < 0 then (r + (4 - ((cols : Int) + 4) % 8), c + cols) else (r, c)
def wrapR (rows cols : Nat) (row col : Int) : Int × Int := if row < 0 then wrapC cols (row + rows) (col + (4 - ((rows : Int) + 4) % 8)) else wrapC cols row col
def idxR (rows cols : Nat) (row col : Int) : Int := (wrapR rows cols row col).1 * cols + (wrapR rows cols row col).2

def bitOf (c bit : Nat) : Bool := c.testBit (8 - bit)
theorem and_bit : ∀ c : Nat, c < 256 → (bits .and .u8 (c : Int) 128 != 0) = bitOf c 1 ∧ (bits .and .u8 (c : Int) 64 != 0) = bitOf c 2 ∧ (bits .and .u8 (c : Int) 32 != 0) = bitOf c 3 ∧ (bits .and .u8 (c : Int) 16 != 0) = bitOf c 4 ∧
    (bits .and .u8 (c : Int) 8 != 0) = bitOf c 5 ∧ (bits .and .u8 (c : Int) 4 != 0) = bitOf c 6 ∧ (bits .and .u8 (c : Int) 2 != 0) = bitOf c 7 ∧ (bits .and .u8 (c : Int) 1 != 0) = bitOf c 8 := by decide +kernel

theorem idx_of {rows cols : Nat} {row col r c : Int} {n : Nat} (h : idxR rows cols row col = (n : Int)) (hw : wrapR rows cols row col = (r, c)) : r * cols + c = (n : Int) := by
  rw [idxR, hw] at h; exact h

theorem module_calls1 {w0 w : World} {b bb cb cap rows cols : Nat} {cw : List Nat} {bits : List Int} (h : PMem w0 w b bb cb cap rows cols cw bits) (hs : Small cw)
    (row col : Int) (pos n : Nat) (hr0 : -10 ≤ row) (hr1 : row ≤ 1000) (hc0 : -10 ≤ col) (hc1 : col ≤ 1000) (hn : idxR rows cols row col = (n : Int)) (hlt : n < bits.length) (hpos : pos < cw.length) (hcl : cw.length ≤ 4000) :
    Calls Tryz.prog 132 #[.pointer (some ⟨b, 0, none⟩), .int .i64 row, .int .i64 col, .int .i64 pos, .int .i64 1] w (PSet w0 b bb cb cap rows cols cw (bits.set n (b2i (bitOf (cw.getD pos 0) 1)))) := by
  have k0 := h.k0
  have k1 := h.k1
  have k2 := h.k2
  have b1 := h.r1
  have b2 := h.c1
  have cx := h.byt.2 pos hpos
  have hsm := hs pos
  obtain ⟨e1, e2, e3, e4, e5, e6, e7, e8⟩ := and_bit _ hsm
  have H := Lib.hid h
  have HN := Lib.hid hn
  clear h hn
  generalize cw.getD pos 0 = c at *
  by_cases hr : row < 0
  all_goals
    go_enter Tryz.func132, Tryz.ntmps132
    go_wp2_with (go_at_call 107; refine (setBit_calls _ H.out _ _ n (by omega) (by omega) (by omega) (by omega) (idx_of HN.out (by unfold wrapR; (first | rw [if_pos (by omega)] | rw [if_neg (by omega)]); unfold wrapC; (first | rw [if_pos (by omega)] | rw [if_neg (by omega)]))) hlt).mono ?_; rintro e w' ⟨rfl, hp⟩)
    all_goals (go_end0; exact ⟨rfl, hp⟩)

theorem module_calls2 {w0 w : World} {b bb cb cap rows cols : Nat} {cw : List Nat} {bits : List Int} (h : PMem w0 w b bb cb cap rows cols cw bits) (hs : Small cw)
    (row col : Int) (pos n : Nat) (hr0 : -10 ≤ row) (hr1 : row ≤ 1000) (hc0 : -10 ≤ col) (hc1 : col ≤ 1000) (hn : idxR rows cols row col = (n : Int)) (hlt : n < bits.length) (hpos : pos < cw.length) (hcl : cw.length ≤ 4000) :
    Calls Tryz.prog 132 #[.pointer (some ⟨b, 0, none⟩), .int .i64 row, .int .i64 col, .int .i64 pos, .int .i64 2] w (PSet w0 b bb cb cap rows cols cw (bits.set n (b2i (bitOf (cw.getD pos 0) 2)))) := by
  have k0 := h.k0
  have k1 := h.k1
  have k2 := h.k2
  have b1 := h.r1
  have b2 := h.c1
  have cx := h.byt.2 pos hpos
  have hsm := hs pos
  obtain ⟨e1, e2, e3, e4, e5, e6, e7, e8⟩ := and_bit _ hsm
  have H := Lib.hid h
  have HN := Lib.hid hn
  clear h hn
  generalize cw.getD pos 0 = c at *
  by_cases hr : row < 0
  all_goals
    go_enter Tryz.func132, Tryz.ntmps132
    go_wp2_with (go_at_call 107; refine (setBit_calls _ H.out _ _ n (by omega) (by omega) (by omega) (by omega) (idx_of HN.out (by unfold wrapR; (first | rw [if_pos (by omega)] | rw [if_neg (by omega)]); unfold wrapC; (first | rw [if_pos (by omega)] | rw [if_neg (by omega)]))) hlt).mono ?_; rintro e w' ⟨rfl, hp⟩)
    all_goals (go_end0; exact ⟨rfl, hp⟩)

theorem module_calls3 {w0 w : World} {b bb cb cap rows cols : Nat} {cw : List Nat} {bits : List Int} (h : PMem w0 w b bb cb cap rows cols cw bits) (hs : Small cw)
    (row col : Int) (pos n : Nat) (hr0 : -10 ≤ row) (hr1 : row ≤ 1000) (hc0 : -10 ≤ col) (hc1 : col ≤ 1000) (hn : idxR rows cols row col = (n : Int)) (hlt : n < bits.length) (hpos : pos < cw.length) (hcl : cw.length ≤ 4000) :
    Calls Tryz.prog 132 #[.pointer (some ⟨b, 0, none⟩), .int .i64 row, .int .i64 col, .int .i64 pos, .int .i64 3] w (PSet w0 b bb cb cap rows cols cw (bits.set n (b2i (bitOf (cw.getD pos 0) 3)))) := by
  have k0 := h.k0
  have k1 := h.k1
  have k2 := h.k2
  have b1 := h.r1
  have b2 := h.c1
  have cx := h.byt.2 pos hpos
  have hsm := hs pos
  obtain ⟨e1, e2, e3, e4, e5, e6, e7, e8⟩ := and_bit _ hsm
  have H := Lib.hid h
  have HN := Lib.hid hn
  clear h hn
  generalize cw.getD pos 0 = c at *
  by_cases hr : row < 0
  all_goals
    go_enter Tryz.func132, Tryz.ntmps132
    go_wp2_with (go_at_call 107; refine (setBit_calls _ H.out _ _ n (by omega) (by omega) (by omega) (by omega) (idx_of HN.out (by unfold wrapR; (first | rw [if_pos (by omega)] | rw [if_neg (by omega)]); unfold wrapC; (first | rw [if_pos (by omega)] | rw [if_neg (by omega)]))) hlt).mono ?_; rintro e w' ⟨rfl, hp⟩)
    all_goals (go_end0; exact ⟨rfl, hp⟩)

theorem module_calls4 {w0 w : World} {b bb cb cap rows cols : Nat} {cw : List Nat} {bits : List Int} (h : PMem w0 w b bb cb cap rows cols cw bits) (hs : Small cw)
    (row col : Int) (pos n : Nat) (hr0 : -10 ≤ row) (hr1 : row ≤ 1000) (hc0 : -10 ≤ col) (hc1 : col ≤ 1000) (hn : idxR rows cols row col = (n : Int)) (hlt : n < bits.length) (hpos : pos < cw.length) (hcl : cw.length ≤ 4000) :
    Calls Tryz.prog 132 #[.pointer (some ⟨b, 0, none⟩), .int .i64 row, .int .i64 col, .int .i64 pos, .int .i64 4] w (PSet w0 b bb cb cap rows cols cw (bits.set n (b2i (bitOf (cw.getD pos 0) 4)))) := by
  have k0 := h.k0
  have k1 := h.k1
  have k2 := h.k2
  have b1 := h.r1
  have b2 := h.c1
  have cx := h.byt.2 pos hpos
  have hsm := hs pos
  obtain ⟨e1, e2, e3, e4, e5, e6, e7, e8⟩ := and_bit _ hsm
  have H := Lib.hid h
  have HN := Lib.hid hn
  clear h hn
  generalize cw.getD pos 0 = c at *
  by_cases hr : row < 0
  all_goals
    go_enter Tryz.func132, Tryz.ntmps132
    go_wp2_with (go_at_call 107; refine (setBit_calls _ H.out _ _ n (by omega) (by omega) (by omega) (by omega) (idx_of HN.out (by unfold wrapR; (first | rw [if_pos (by omega)] | rw [if_neg (by omega)]); unfold wrapC; (first | rw [if_pos (by omega)] | rw [if_neg (by omega)]))) hlt).mono ?_; rintro e w' ⟨rfl, hp⟩)
    all_goals (go_end0; exact ⟨rfl, hp⟩)

theorem module_calls5 {w0 w : World} {b bb cb cap rows cols : Nat} {cw : List Nat} {bits : List Int} (h : PMem w0 w b bb cb cap rows cols cw bits) (hs : Small cw)
    (row col : Int) (pos n : Nat) (hr0 : -10 ≤ row) (hr1 : row ≤ 1000) (hc0 : -10 ≤ col) (hc1 : col ≤ 1000) (hn : idxR rows cols row col = (n : Int)) (hlt : n < bits.length) (hpos : pos < cw.length) (hcl : cw.length ≤ 4000) :
    Calls Tryz.prog 132 #[.pointer (some ⟨b, 0, none⟩), .int .i64 row, .int .i64 col, .int .i64 pos, .int .i64 5] w (PSet w0 b bb cb cap rows cols cw (bits.set n (b2i (bitOf (cw.getD pos 0) 5)))) := by
  have k0 := h.k0
  have k1 := h.k1
  have k2 := h.k2
  have b1 := h.r1
  have b2 := h.c1
  have cx := h.byt.2 pos hpos
  have hsm := hs pos
  obtain ⟨e1, e2, e3, e4, e5, e6, e7, e8⟩ := and_bit _ hsm
  have H := Lib.hid h
  have HN := Lib.hid hn
  clear h hn
  generalize cw.getD pos 0 = c at *
  by_cases hr : row < 0
  all_goals
    go_enter Tryz.func132, Tryz.ntmps132
    go_wp2_with (go_at_call 107; refine (setBit_calls _ H.out _ _ n (by omega) (by omega) (by omega) (by omega) (idx_of HN.out (by unfold wrapR; (first | rw [if_pos (by omega)] | rw [if_neg (by omega)]); unfold wrapC; (first | rw [if_pos (by omega)] | rw [if_neg (by omega)]))) hlt).mono ?_; rintro e w' ⟨rfl, hp⟩)
    all_goals (go_end0; exact ⟨rfl, hp⟩)

theorem module_calls6 {w0 w : World} {b bb cb cap rows cols : Nat} {cw : List Nat} {bits : List Int} (h : PMem w0 w b bb cb cap rows cols cw bits) (hs : Small cw)
    (row col : Int) (pos n : Nat) (hr0 : -10 ≤ row) (hr1 : row ≤ 1000) (hc0 : -10 ≤ col) (hc1 : col ≤ 1000) (hn : idxR rows cols row col = (n : Int)) (hlt : n < bits.length) (hpos : pos < cw.length) (hcl : cw.length ≤ 4000) :
    Calls Tryz.prog 132 #[.pointer (some ⟨b, 0, none⟩), .int .i64 row, .int .i64 col, .int .i64 pos, .int .i64 6] w (PSet w0 b bb cb cap rows cols cw (bits.set n (b2i (bitOf (cw.getD pos 0) 6)))) := by
  have k0 := h.k0
  have k1 := h.k1
  have k2 := h.k2
  have b1 := h.r1
  have b2 := h.c1
  have cx := h.byt.2 pos hpos
  have hsm := hs pos
  obtain ⟨e1, e2, e3, e4, e5, e6, e7, e8⟩ := and_bit _ hsm
  have H := Lib.hid h
  have HN := Lib.hid hn
  clear h hn
  generalize cw.getD pos 0 = c at *
  by_cases hr : row < 0
  all_goals
    go_enter Tryz.func132, Tryz.ntmps132
    go_wp2_with (go_at_call 107; refine (setBit_calls _ H.out _ _ n (by omega) (by omega) (by omega) (by omega) (idx_of HN.out (by unfold wrapR; (first | rw [if_pos (by omega)] | rw [if_neg (by omega)]); unfold wrapC; (first | rw [if_pos (by omega)] | rw [if_neg (by omega)]))) hlt).mono ?_; rintro e w' ⟨rfl, hp⟩)
    all_goals (go_end0; exact ⟨rfl, hp⟩)

theorem module_calls7 {w0 w : World} {b bb cb cap rows cols : Nat} {cw : List Nat} {bits : List Int} (h : PMem w0 w b bb cb cap rows cols cw bits) (hs : Small cw)
    (row col : Int) (pos n : Nat) (hr0 : -10 ≤ row) (hr1 : row ≤ 1000) (hc0 : -10 ≤ col) (hc1 : col ≤ 1000) (hn : idxR rows cols row col = (n : Int)) (hlt : n < bits.length) (hpos : pos < cw.length) (hcl : cw.length ≤ 4000) :
    Calls Tryz.prog 132 #[.pointer (some ⟨b, 0, none⟩), .int .i64 row, .int .i64 col, .int .i64 pos, .int .i64 7] w (PSet w0 b bb cb cap rows cols cw (bits.set n (b2i (bitOf (cw.getD pos 0) 7)))) := by
  have k0 := h.k0
  have k1 := h.k1
  have k2 := h.k2
  have b1 := h.r1
  have b2 := h.c1
  have cx := h.byt.2 pos hpos
  have hsm := hs pos
  obtain ⟨e1, e2, e3, e4, e5, e6, e7, e8⟩ := and_bit _ hsm
  have H := Lib.hid h
  have HN := Lib.hid hn
  clear h hn
  generalize cw.getD pos 0 = c at *
  by_cases hr : row < 0
  all_goals
    go_enter Tryz.func132, Tryz.ntmps132
    go_wp2_with (go_at_call 107; refine (setBit_calls _ H.out _ _ n (by omega) (by omega) (by omega) (by omega) (idx_of HN.out (by unfold wrapR; (first | rw [if_pos (by omega)] | rw [if_neg (by omega)]); unfold wrapC; (first | rw [if_pos (by omega)] | rw [if_neg (by omega)]))) hlt).mono ?_; rintro e w' ⟨rfl, hp⟩)
    all_goals (go_end0; exact ⟨rfl, hp⟩)

theorem module_calls8 {w0 w : World} {b bb cb cap rows cols : Nat} {cw : List Nat} {bits : List Int} (h : PMem w0 w b bb cb cap rows cols cw bits) (hs : Small cw)
    (row col : Int) (pos n : Nat) (hr0 : -10 ≤ row) (hr1 : row ≤ 1000) (hc0 : -10 ≤ col) (hc1 : col ≤ 1000) (hn : idxR rows cols row col = (n : Int)) (hlt : n < bits.length) (hpos : pos < cw.length) (hcl : cw.length ≤ 4000) :
    Calls Tryz.prog 132 #[.pointer (some ⟨b, 0, none⟩), .int .i64 row, .int .i64 col, .int .i64 pos, .int .i64 8] w (PSet w0 b bb cb cap rows cols cw (bits.set n (b2i (bitOf (cw.getD pos 0) 8)))) := by
  have k0 := h.k0
  have k1 := h.k1
  have k2 := h.k2
  have b1 := h.r1
  have b2 := h.c1
  have cx := h.byt.2 pos hpos
  have hsm := hs pos
  obtain ⟨e1, e2, e3, e4, e5, e6, e7, e8⟩ := and_bit _ hsm
  have H := Lib.hid h
  have HN := Lib.hid hn
  clear h hn
  generalize cw.getD pos 0 = c at *
  by_cases hr : row < 0
  all_goals
    go_enter Tryz.func132, Tryz.ntmps132
    go_wp2_with (go_at_call 107; refine (setBit_calls _ H.out _ _ n (by omega) (by omega) (by omega) (by omega) (idx_of HN.out (by unfold wrapR; (first | rw [if_pos (by omega)] | rw [if_neg (by omega)]); unfold wrapC; (first | rw [if_pos (by omega)] | rw [if_neg (by omega)]))) hlt).mono ?_; rintro e w' ⟨rfl, hp⟩)
    all_goals (go_end0; exact ⟨rfl, hp⟩)

end Go.Proofs.YtcnallabiffemaaGreatDoor
