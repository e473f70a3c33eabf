/- utah and the corners of the encoder's placement. -/
import Derived.Test.YtcnallabiffemaaGreatDoorE1
import Derived.Deep.RegionWith
set_option linter.unusedVariables false
set_option linter.unusedSimpArgs false
namespace Go.Proofs.YtcnallabiffemaaGreatDoor
open Go.RowKit

structure InR (rows cols : Nat) (p : Int × Int) : Prop where
  r0 : -10 ≤ p.1
  r1 : p.1 ≤ 1000
  c0 : -10 ≤ p.2
  c1 : p.2 ≤ 1000
  i0 : 0 ≤ idxR rows cols p.1 p.2
  i1 : idxR rows cols p.1 p.2 < (rows * cols : Nat)

def setM (rows cols : Nat) (cw : List Nat) (pos k : Nat) (bits : List Int) (p : Int × Int) : List Int := bits.set (idxR rows cols p.1 p.2).toNat (b2i (bitOf (cw.getD pos 0) k))
def set8 (rows cols : Nat) (cw : List Nat) (pos : Nat) (bits : List Int) (p1 p2 p3 p4 p5 p6 p7 p8 : Int × Int) : List Int :=
  setM rows cols cw pos 8 (setM rows cols cw pos 7 (setM rows cols cw pos 6 (setM rows cols cw pos 5 (setM rows cols cw pos 4 (setM rows cols cw pos 3 (setM rows cols cw pos 2 (setM rows cols cw pos 1 bits p1) p2) p3) p4) p5) p6) p7) p8

theorem mod1 {w0 w : World} {b bb cb cap rows cols : Nat} {cw : List Nat} {bits : List Int} (h : PMem w0 w b bb cb cap rows cols cw bits) (hs : Small cw) (row col : Int) (pos : Nat) (hi : InR rows cols (row, col)) (hpos : pos < cw.length) (hcl : cw.length ≤ 4000) :
    Calls Tryz.prog 132 #[.pointer (some ⟨b, 0, none⟩), .int .i64 row, .int .i64 col, .int .i64 pos, .int .i64 1] w (PSet w0 b bb cb cap rows cols cw (setM rows cols cw pos 1 bits (row, col))) :=
  module_calls1 h hs row col pos (idxR rows cols row col).toNat hi.r0 hi.r1 hi.c0 hi.c1 (Int.toNat_of_nonneg hi.i0).symm (by rw [h.len]; have := hi.i1; have := hi.i0; simp only at *; omega) hpos hcl
theorem mod2 {w0 w : World} {b bb cb cap rows cols : Nat} {cw : List Nat} {bits : List Int} (h : PMem w0 w b bb cb cap rows cols cw bits) (hs : Small cw) (row col : Int) (pos : Nat) (hi : InR rows cols (row, col)) (hpos : pos < cw.length) (hcl : cw.length ≤ 4000) :
    Calls Tryz.prog 132 #[.pointer (some ⟨b, 0, none⟩), .int .i64 row, .int .i64 col, .int .i64 pos, .int .i64 2] w (PSet w0 b bb cb cap rows cols cw (setM rows cols cw pos 2 bits (row, col))) :=
  module_calls2 h hs row col pos (idxR rows cols row col).toNat hi.r0 hi.r1 hi.c0 hi.c1 (Int.toNat_of_nonneg hi.i0).symm (by rw [h.len]; have := hi.i1; have := hi.i0; simp only at *; omega) hpos hcl
theorem mod3 {w0 w : World} {b bb cb cap rows cols : Nat} {cw : List Nat} {bits : List Int} (h : PMem w0 w b bb cb cap rows cols cw bits) (hs : Small cw) (row col : Int) (pos : Nat) (hi : InR rows cols (row, col)) (hpos : pos < cw.length) (hcl : cw.length ≤ 4000) :
    Calls Tryz.prog 132 #[.pointer (some ⟨b, 0, none⟩), .int .i64 row, .int .i64 col, .int .i64 pos, .int .i64 3] w (PSet w0 b bb cb cap rows cols cw (setM rows cols cw pos 3 bits (row, col))) :=
  module_calls3 h hs row col pos (idxR rows cols row col).toNat hi.r0 hi.r1 hi.c0 hi.c1 (Int.toNat_of_nonneg hi.i0).symm (by rw [h.len]; have := hi.i1; have := hi.i0; simp only at *; omega) hpos hcl
theorem mod4 {w0 w : World} {b bb cb cap rows cols : Nat} {cw : List Nat} {bits : List Int} (h : PMem w0 w b bb cb cap rows cols cw bits) (hs : Small cw) (row col : Int) (pos : Nat) (hi : InR rows cols (row, col)) (hpos : pos < cw.length) (hcl : cw.length ≤ 4000) :
    Calls Tryz.prog 132 #[.pointer (some ⟨b, 0, none⟩), .int .i64 row, .int .i64 col, .int .i64 pos, .int .i64 4] w (PSet w0 b bb cb cap rows cols cw (setM rows cols cw pos 4 bits (row, col))) :=
  module_calls4 h hs row col pos (idxR rows cols row col).toNat hi.r0 hi.r1 hi.c0 hi.c1 (Int.toNat_of_nonneg hi.i0).symm (by rw [h.len]; have := hi.i1; have := hi.i0; simp only at *; omega) hpos hcl
theorem mod5 {w0 w : World} {b bb cb cap rows cols : Nat} {cw : List Nat} {bits : List Int} (h : PMem w0 w b bb cb cap rows cols cw bits) (hs : Small cw) (row col : Int) (pos : Nat) (hi : InR rows cols (row, col)) (hpos : pos < cw.length) (hcl : cw.length ≤ 4000) :
    Calls Tryz.prog 132 #[.pointer (some ⟨b, 0, none⟩), .int .i64 row, .int .i64 col, .int .i64 pos, .int .i64 5] w (PSet w0 b bb cb cap rows cols cw (setM rows cols cw pos 5 bits (row, col))) :=
  module_calls5 h hs row col pos (idxR rows cols row col).toNat hi.r0 hi.r1 hi.c0 hi.c1 (Int.toNat_of_nonneg hi.i0).symm (by rw [h.len]; have := hi.i1; have := hi.i0; simp only at *; omega) hpos hcl
theorem mod6 {w0 w : World} {b bb cb cap rows cols : Nat} {cw : List Nat} {bits : List Int} (h : PMem w0 w b bb cb cap rows cols cw bits) (hs : Small cw) (row col : Int) (pos : Nat) (hi : InR rows cols (row, col)) (hpos : pos < cw.length) (hcl : cw.length ≤ 4000) :
    Calls Tryz.prog 132 #[.pointer (some ⟨b, 0, none⟩), .int .i64 row, .int .i64 col, .int .i64 pos, .int .i64 6] w (PSet w0 b bb cb cap rows cols cw (setM rows cols cw pos 6 bits (row, col))) :=
  module_calls6 h hs row col pos (idxR rows cols row col).toNat hi.r0 hi.r1 hi.c0 hi.c1 (Int.toNat_of_nonneg hi.i0).symm (by rw [h.len]; have := hi.i1; have := hi.i0; simp only at *; omega) hpos hcl
theorem mod7 {w0 w : World} {b bb cb cap rows cols : Nat} {cw : List Nat} {bits : List Int} (h : PMem w0 w b bb cb cap rows cols cw bits) (hs : Small cw) (row col : Int) (pos : Nat) (hi : InR rows cols (row, col)) (hpos : pos < cw.length) (hcl : cw.length ≤ 4000) :
    Calls Tryz.prog 132 #[.pointer (some ⟨b, 0, none⟩), .int .i64 row, .int .i64 col, .int .i64 pos, .int .i64 7] w (PSet w0 b bb cb cap rows cols cw (setM rows cols cw pos 7 bits (row, col))) :=
  module_calls7 h hs row col pos (idxR rows cols row col).toNat hi.r0 hi.r1 hi.c0 hi.c1 (Int.toNat_of_nonneg hi.i0).symm (by rw [h.len]; have := hi.i1; have := hi.i0; simp only at *; omega) hpos hcl
theorem mod8 {w0 w : World} {b bb cb cap rows cols : Nat} {cw : List Nat} {bits : List Int} (h : PMem w0 w b bb cb cap rows cols cw bits) (hs : Small cw) (row col : Int) (pos : Nat) (hi : InR rows cols (row, col)) (hpos : pos < cw.length) (hcl : cw.length ≤ 4000) :
    Calls Tryz.prog 132 #[.pointer (some ⟨b, 0, none⟩), .int .i64 row, .int .i64 col, .int .i64 pos, .int .i64 8] w (PSet w0 b bb cb cap rows cols cw (setM rows cols cw pos 8 bits (row, col))) :=
  module_calls8 h hs row col pos (idxR rows cols row col).toNat hi.r0 hi.r1 hi.c0 hi.c1 (Int.toNat_of_nonneg hi.i0).symm (by rw [h.len]; have := hi.i1; have := hi.i0; simp only at *; omega) hpos hcl

theorem utah_calls {w0 w : World} {b bb cb cap rows cols : Nat} {cw : List Nat} {bits : List Int} (h : PMem w0 w b bb cb cap rows cols cw bits) (hs : Small cw) (row col : Int) (pos : Nat)
    (h1 : InR rows cols (row - 2, col - 2))
    (h2 : InR rows cols (row - 2, col - 1))
    (h3 : InR rows cols (row - 1, col - 2))
    (h4 : InR rows cols (row - 1, col - 1))
    (h5 : InR rows cols (row - 1, col))
    (h6 : InR rows cols (row, col - 2))
    (h7 : InR rows cols (row, col - 1))
    (h8 : InR rows cols (row, col))
    (hr0 : 0 ≤ row) (hr1 : row ≤ 1000) (hc0 : 0 ≤ col) (hc1 : col ≤ 1000) (hpos : pos < cw.length) (hcl : cw.length ≤ 4000) :
    Calls Tryz.prog 106 #[.pointer (some ⟨b, 0, none⟩), .int .i64 row, .int .i64 col, .int .i64 pos] w (PSet w0 b bb cb cap rows cols cw (set8 rows cols cw pos bits (row - 2, col - 2) (row - 2, col - 1) (row - 1, col - 2) (row - 1, col - 1) (row - 1, col) (row, col - 2) (row, col - 1) (row, col))) := by
  have k1 := h.k1
  have k2 := h.k2
  have q1 := h.r0
  have q2 := h.r1
  have q3 := h.c0
  have q4 := h.c1
  have H0 := Lib.hid h
  clear h
  go_enter Tryz.func106, Tryz.ntmps106
  go_wp2_with fail
  refine (mod1 H0.out hs _ _ pos h1 hpos hcl).mono ?_
  rintro e w1 ⟨rfl, hp1⟩
  have k1 := hp1.k1
  have k2 := hp1.k2
  have H1 := Lib.hid hp1
  clear hp1
  go_wp2_with fail
  refine (mod2 H1.out hs _ _ pos h2 hpos hcl).mono ?_
  rintro e w2 ⟨rfl, hp2⟩
  have k1 := hp2.k1
  have k2 := hp2.k2
  have H2 := Lib.hid hp2
  clear hp2
  go_wp2_with fail
  refine (mod3 H2.out hs _ _ pos h3 hpos hcl).mono ?_
  rintro e w3 ⟨rfl, hp3⟩
  have k1 := hp3.k1
  have k2 := hp3.k2
  have H3 := Lib.hid hp3
  clear hp3
  go_wp2_with fail
  refine (mod4 H3.out hs _ _ pos h4 hpos hcl).mono ?_
  rintro e w4 ⟨rfl, hp4⟩
  have k1 := hp4.k1
  have k2 := hp4.k2
  have H4 := Lib.hid hp4
  clear hp4
  go_wp2_with fail
  refine (mod5 H4.out hs _ _ pos h5 hpos hcl).mono ?_
  rintro e w5 ⟨rfl, hp5⟩
  have k1 := hp5.k1
  have k2 := hp5.k2
  have H5 := Lib.hid hp5
  clear hp5
  go_wp2_with fail
  refine (mod6 H5.out hs _ _ pos h6 hpos hcl).mono ?_
  rintro e w6 ⟨rfl, hp6⟩
  have k1 := hp6.k1
  have k2 := hp6.k2
  have H6 := Lib.hid hp6
  clear hp6
  go_wp2_with fail
  refine (mod7 H6.out hs _ _ pos h7 hpos hcl).mono ?_
  rintro e w7 ⟨rfl, hp7⟩
  have k1 := hp7.k1
  have k2 := hp7.k2
  have H7 := Lib.hid hp7
  clear hp7
  go_wp2_with fail
  refine (mod8 H7.out hs _ _ pos h8 hpos hcl).mono ?_
  rintro e w8 ⟨rfl, hp8⟩
  have k1 := hp8.k1
  have k2 := hp8.k2
  have H8 := Lib.hid hp8
  clear hp8
  go_wp2_with fail
  go_end0
  exact ⟨rfl, H8.out⟩

theorem corner1_calls {w0 w : World} {b bb cb cap rows cols : Nat} {cw : List Nat} {bits : List Int} (h : PMem w0 w b bb cb cap rows cols cw bits) (hs : Small cw) (pos : Nat)
    (h1 : InR rows cols ((rows : Int) - 1, 0))
    (h2 : InR rows cols ((rows : Int) - 1, 1))
    (h3 : InR rows cols ((rows : Int) - 1, 2))
    (h4 : InR rows cols (0, (cols : Int) - 2))
    (h5 : InR rows cols (0, (cols : Int) - 1))
    (h6 : InR rows cols (1, (cols : Int) - 1))
    (h7 : InR rows cols (2, (cols : Int) - 1))
    (h8 : InR rows cols (3, (cols : Int) - 1))
    (hpos : pos < cw.length) (hcl : cw.length ≤ 4000) :
    Calls Tryz.prog 101 #[.pointer (some ⟨b, 0, none⟩), .int .i64 pos] w (PSet w0 b bb cb cap rows cols cw (set8 rows cols cw pos bits ((rows : Int) - 1, 0) ((rows : Int) - 1, 1) ((rows : Int) - 1, 2) (0, (cols : Int) - 2) (0, (cols : Int) - 1) (1, (cols : Int) - 1) (2, (cols : Int) - 1) (3, (cols : Int) - 1))) := by
  have k1 := h.k1
  have k2 := h.k2
  have q1 := h.r0
  have q2 := h.r1
  have q3 := h.c0
  have q4 := h.c1
  have H0 := Lib.hid h
  clear h
  go_enter Tryz.func101, Tryz.ntmps101
  go_wp2_with fail
  refine (mod1 H0.out hs _ _ pos h1 hpos hcl).mono ?_
  rintro e w1 ⟨rfl, hp1⟩
  have k1 := hp1.k1
  have k2 := hp1.k2
  have H1 := Lib.hid hp1
  clear hp1
  go_wp2_with fail
  refine (mod2 H1.out hs _ _ pos h2 hpos hcl).mono ?_
  rintro e w2 ⟨rfl, hp2⟩
  have k1 := hp2.k1
  have k2 := hp2.k2
  have H2 := Lib.hid hp2
  clear hp2
  go_wp2_with fail
  refine (mod3 H2.out hs _ _ pos h3 hpos hcl).mono ?_
  rintro e w3 ⟨rfl, hp3⟩
  have k1 := hp3.k1
  have k2 := hp3.k2
  have H3 := Lib.hid hp3
  clear hp3
  go_wp2_with fail
  refine (mod4 H3.out hs _ _ pos h4 hpos hcl).mono ?_
  rintro e w4 ⟨rfl, hp4⟩
  have k1 := hp4.k1
  have k2 := hp4.k2
  have H4 := Lib.hid hp4
  clear hp4
  go_wp2_with fail
  refine (mod5 H4.out hs _ _ pos h5 hpos hcl).mono ?_
  rintro e w5 ⟨rfl, hp5⟩
  have k1 := hp5.k1
  have k2 := hp5.k2
  have H5 := Lib.hid hp5
  clear hp5
  go_wp2_with fail
  refine (mod6 H5.out hs _ _ pos h6 hpos hcl).mono ?_
  rintro e w6 ⟨rfl, hp6⟩
  have k1 := hp6.k1
  have k2 := hp6.k2
  have H6 := Lib.hid hp6
  clear hp6
  go_wp2_with fail
  refine (mod7 H6.out hs _ _ pos h7 hpos hcl).mono ?_
  rintro e w7 ⟨rfl, hp7⟩
  have k1 := hp7.k1
  have k2 := hp7.k2
  have H7 := Lib.hid hp7
  clear hp7
  go_wp2_with fail
  refine (mod8 H7.out hs _ _ pos h8 hpos hcl).mono ?_
  rintro e w8 ⟨rfl, hp8⟩
  have k1 := hp8.k1
  have k2 := hp8.k2
  have H8 := Lib.hid hp8
  clear hp8
  go_wp2_with fail
  go_end0
  exact ⟨rfl, H8.out⟩

theorem corner2_calls {w0 w : World} {b bb cb cap rows cols : Nat} {cw : List Nat} {bits : List Int} (h : PMem w0 w b bb cb cap rows cols cw bits) (hs : Small cw) (pos : Nat)
    (h1 : InR rows cols ((rows : Int) - 3, 0))
    (h2 : InR rows cols ((rows : Int) - 2, 0))
    (h3 : InR rows cols ((rows : Int) - 1, 0))
    (h4 : InR rows cols (0, (cols : Int) - 4))
    (h5 : InR rows cols (0, (cols : Int) - 3))
    (h6 : InR rows cols (0, (cols : Int) - 2))
    (h7 : InR rows cols (0, (cols : Int) - 1))
    (h8 : InR rows cols (1, (cols : Int) - 1))
    (hpos : pos < cw.length) (hcl : cw.length ≤ 4000) :
    Calls Tryz.prog 102 #[.pointer (some ⟨b, 0, none⟩), .int .i64 pos] w (PSet w0 b bb cb cap rows cols cw (set8 rows cols cw pos bits ((rows : Int) - 3, 0) ((rows : Int) - 2, 0) ((rows : Int) - 1, 0) (0, (cols : Int) - 4) (0, (cols : Int) - 3) (0, (cols : Int) - 2) (0, (cols : Int) - 1) (1, (cols : Int) - 1))) := by
  have k1 := h.k1
  have k2 := h.k2
  have q1 := h.r0
  have q2 := h.r1
  have q3 := h.c0
  have q4 := h.c1
  have H0 := Lib.hid h
  clear h
  go_enter Tryz.func102, Tryz.ntmps102
  go_wp2_with fail
  refine (mod1 H0.out hs _ _ pos h1 hpos hcl).mono ?_
  rintro e w1 ⟨rfl, hp1⟩
  have k1 := hp1.k1
  have k2 := hp1.k2
  have H1 := Lib.hid hp1
  clear hp1
  go_wp2_with fail
  refine (mod2 H1.out hs _ _ pos h2 hpos hcl).mono ?_
  rintro e w2 ⟨rfl, hp2⟩
  have k1 := hp2.k1
  have k2 := hp2.k2
  have H2 := Lib.hid hp2
  clear hp2
  go_wp2_with fail
  refine (mod3 H2.out hs _ _ pos h3 hpos hcl).mono ?_
  rintro e w3 ⟨rfl, hp3⟩
  have k1 := hp3.k1
  have k2 := hp3.k2
  have H3 := Lib.hid hp3
  clear hp3
  go_wp2_with fail
  refine (mod4 H3.out hs _ _ pos h4 hpos hcl).mono ?_
  rintro e w4 ⟨rfl, hp4⟩
  have k1 := hp4.k1
  have k2 := hp4.k2
  have H4 := Lib.hid hp4
  clear hp4
  go_wp2_with fail
  refine (mod5 H4.out hs _ _ pos h5 hpos hcl).mono ?_
  rintro e w5 ⟨rfl, hp5⟩
  have k1 := hp5.k1
  have k2 := hp5.k2
  have H5 := Lib.hid hp5
  clear hp5
  go_wp2_with fail
  refine (mod6 H5.out hs _ _ pos h6 hpos hcl).mono ?_
  rintro e w6 ⟨rfl, hp6⟩
  have k1 := hp6.k1
  have k2 := hp6.k2
  have H6 := Lib.hid hp6
  clear hp6
  go_wp2_with fail
  refine (mod7 H6.out hs _ _ pos h7 hpos hcl).mono ?_
  rintro e w7 ⟨rfl, hp7⟩
  have k1 := hp7.k1
  have k2 := hp7.k2
  have H7 := Lib.hid hp7
  clear hp7
  go_wp2_with fail
  refine (mod8 H7.out hs _ _ pos h8 hpos hcl).mono ?_
  rintro e w8 ⟨rfl, hp8⟩
  have k1 := hp8.k1
  have k2 := hp8.k2
  have H8 := Lib.hid hp8
  clear hp8
  go_wp2_with fail
  go_end0
  exact ⟨rfl, H8.out⟩

theorem corner3_calls {w0 w : World} {b bb cb cap rows cols : Nat} {cw : List Nat} {bits : List Int} (h : PMem w0 w b bb cb cap rows cols cw bits) (hs : Small cw) (pos : Nat)
    (h1 : InR rows cols ((rows : Int) - 3, 0))
    (h2 : InR rows cols ((rows : Int) - 2, 0))
    (h3 : InR rows cols ((rows : Int) - 1, 0))
    (h4 : InR rows cols (0, (cols : Int) - 2))
    (h5 : InR rows cols (0, (cols : Int) - 1))
    (h6 : InR rows cols (1, (cols : Int) - 1))
    (h7 : InR rows cols (2, (cols : Int) - 1))
    (h8 : InR rows cols (3, (cols : Int) - 1))
    (hpos : pos < cw.length) (hcl : cw.length ≤ 4000) :
    Calls Tryz.prog 103 #[.pointer (some ⟨b, 0, none⟩), .int .i64 pos] w (PSet w0 b bb cb cap rows cols cw (set8 rows cols cw pos bits ((rows : Int) - 3, 0) ((rows : Int) - 2, 0) ((rows : Int) - 1, 0) (0, (cols : Int) - 2) (0, (cols : Int) - 1) (1, (cols : Int) - 1) (2, (cols : Int) - 1) (3, (cols : Int) - 1))) := by
  have k1 := h.k1
  have k2 := h.k2
  have q1 := h.r0
  have q2 := h.r1
  have q3 := h.c0
  have q4 := h.c1
  have H0 := Lib.hid h
  clear h
  go_enter Tryz.func103, Tryz.ntmps103
  go_wp2_with fail
  refine (mod1 H0.out hs _ _ pos h1 hpos hcl).mono ?_
  rintro e w1 ⟨rfl, hp1⟩
  have k1 := hp1.k1
  have k2 := hp1.k2
  have H1 := Lib.hid hp1
  clear hp1
  go_wp2_with fail
  refine (mod2 H1.out hs _ _ pos h2 hpos hcl).mono ?_
  rintro e w2 ⟨rfl, hp2⟩
  have k1 := hp2.k1
  have k2 := hp2.k2
  have H2 := Lib.hid hp2
  clear hp2
  go_wp2_with fail
  refine (mod3 H2.out hs _ _ pos h3 hpos hcl).mono ?_
  rintro e w3 ⟨rfl, hp3⟩
  have k1 := hp3.k1
  have k2 := hp3.k2
  have H3 := Lib.hid hp3
  clear hp3
  go_wp2_with fail
  refine (mod4 H3.out hs _ _ pos h4 hpos hcl).mono ?_
  rintro e w4 ⟨rfl, hp4⟩
  have k1 := hp4.k1
  have k2 := hp4.k2
  have H4 := Lib.hid hp4
  clear hp4
  go_wp2_with fail
  refine (mod5 H4.out hs _ _ pos h5 hpos hcl).mono ?_
  rintro e w5 ⟨rfl, hp5⟩
  have k1 := hp5.k1
  have k2 := hp5.k2
  have H5 := Lib.hid hp5
  clear hp5
  go_wp2_with fail
  refine (mod6 H5.out hs _ _ pos h6 hpos hcl).mono ?_
  rintro e w6 ⟨rfl, hp6⟩
  have k1 := hp6.k1
  have k2 := hp6.k2
  have H6 := Lib.hid hp6
  clear hp6
  go_wp2_with fail
  refine (mod7 H6.out hs _ _ pos h7 hpos hcl).mono ?_
  rintro e w7 ⟨rfl, hp7⟩
  have k1 := hp7.k1
  have k2 := hp7.k2
  have H7 := Lib.hid hp7
  clear hp7
  go_wp2_with fail
  refine (mod8 H7.out hs _ _ pos h8 hpos hcl).mono ?_
  rintro e w8 ⟨rfl, hp8⟩
  have k1 := hp8.k1
  have k2 := hp8.k2
  have H8 := Lib.hid hp8
  clear hp8
  go_wp2_with fail
  go_end0
  exact ⟨rfl, H8.out⟩

set_option maxRecDepth 100000 in
theorem corner4_calls {w0 w : World} {b bb cb cap rows cols : Nat} {cw : List Nat} {bits : List Int} (h : PMem w0 w b bb cb cap rows cols cw bits) (hs : Small cw) (pos : Nat)
    (h1 : InR rows cols ((rows : Int) - 1, 0))
    (h2 : InR rows cols ((rows : Int) - 1, (cols : Int) - 1))
    (h3 : InR rows cols (0, (cols : Int) - 3))
    (h4 : InR rows cols (0, (cols : Int) - 2))
    (h5 : InR rows cols (0, (cols : Int) - 1))
    (h6 : InR rows cols (1, (cols : Int) - 3))
    (h7 : InR rows cols (1, (cols : Int) - 2))
    (h8 : InR rows cols (1, (cols : Int) - 1))
    (hpos : pos < cw.length) (hcl : cw.length ≤ 4000) :
    Calls Tryz.prog 104 #[.pointer (some ⟨b, 0, none⟩), .int .i64 pos] w (PSet w0 b bb cb cap rows cols cw (set8 rows cols cw pos bits ((rows : Int) - 1, 0) ((rows : Int) - 1, (cols : Int) - 1) (0, (cols : Int) - 3) (0, (cols : Int) - 2) (0, (cols : Int) - 1) (1, (cols : Int) - 3) (1, (cols : Int) - 2) (1, (cols : Int) - 1))) := by
  have k1 := h.k1
  have k2 := h.k2
  have q1 := h.r0
  have q2 := h.r1
  have q3 := h.c0
  have q4 := h.c1
  have H0 := Lib.hid h
  clear h
  go_enter Tryz.func104, Tryz.ntmps104
  go_wp2_with fail
  refine (mod1 H0.out hs _ _ pos h1 hpos hcl).mono ?_
  rintro e w1 ⟨rfl, hp1⟩
  have k1 := hp1.k1
  have k2 := hp1.k2
  have H1 := Lib.hid hp1
  clear hp1
  go_wp2_with fail
  have iw1 : IntKind.i64.wrap ((rows : Int) - 1) = (rows : Int) - 1 := IntWalk.i64_in _ (by omega)
  have iw2 : IntKind.i64.wrap ((cols : Int) - 1) = (cols : Int) - 1 := IntWalk.i64_in _ (by omega)
  go_region_with ((go_at_call 132; refine (mod2 H1.out.drew hs _ _ pos h2 hpos hcl).mono ?_; rintro e w2 ⟨rfl, hp2⟩; have k1 := hp2.k1; have k2 := hp2.k2; have H2 := Lib.hid hp2; clear hp2))
  all_goals
    clear iw1 iw2
    go_wp2_with fail
    refine (mod3 H2.out hs _ _ pos h3 hpos hcl).mono ?_
    rintro e w3 ⟨rfl, hp3⟩
    have k1 := hp3.k1
    have k2 := hp3.k2
    have H3 := Lib.hid hp3
    clear hp3
    go_wp2_with fail
    refine (mod4 H3.out hs _ _ pos h4 hpos hcl).mono ?_
    rintro e w4 ⟨rfl, hp4⟩
    have k1 := hp4.k1
    have k2 := hp4.k2
    have H4 := Lib.hid hp4
    clear hp4
    go_wp2_with fail
    refine (mod5 H4.out hs _ _ pos h5 hpos hcl).mono ?_
    rintro e w5 ⟨rfl, hp5⟩
    have k1 := hp5.k1
    have k2 := hp5.k2
    have H5 := Lib.hid hp5
    clear hp5
    go_wp2_with fail
    refine (mod6 H5.out hs _ _ pos h6 hpos hcl).mono ?_
    rintro e w6 ⟨rfl, hp6⟩
    have k1 := hp6.k1
    have k2 := hp6.k2
    have H6 := Lib.hid hp6
    clear hp6
    go_wp2_with fail
    refine (mod7 H6.out hs _ _ pos h7 hpos hcl).mono ?_
    rintro e w7 ⟨rfl, hp7⟩
    have k1 := hp7.k1
    have k2 := hp7.k2
    have H7 := Lib.hid hp7
    clear hp7
    go_wp2_with fail
    refine (mod8 H7.out hs _ _ pos h8 hpos hcl).mono ?_
    rintro e w8 ⟨rfl, hp8⟩
    have k1 := hp8.k1
    have k2 := hp8.k2
    have H8 := Lib.hid hp8
    clear hp8
    go_wp2_with fail
    go_end0
    exact ⟨rfl, H8.out⟩

end Go.Proofs.YtcnallabiffemaaGreatDoor
