import Derived.Test.YtcnallabiffemaaGreatDoorMHs3
import Derived.BigQuiet

/- A round of the lookahead: the decision. -/
set_option linter.unusedVariables false
set_option linter.unusedSimpArgs false
namespace Go.Proofs.YtcnallabiffemaaGreatDoor
open Go.RowKit

/-- what findMinimums left: the six whole numbers, and which of them are least -/
structure Dec (w : World) (ib mb : Nat) (ka kc kt kx ke kb l0 l1 l2 l3 l4 l5 : Int) : Prop where
  i0 : w.cell? ⟨ib, 0, none⟩ = some (.int .i64 ka)
  i1 : w.cell? ⟨ib, 1, none⟩ = some (.int .i64 kc)
  i2 : w.cell? ⟨ib, 2, none⟩ = some (.int .i64 kt)
  i3 : w.cell? ⟨ib, 3, none⟩ = some (.int .i64 kx)
  i4 : w.cell? ⟨ib, 4, none⟩ = some (.int .i64 ke)
  i5 : w.cell? ⟨ib, 5, none⟩ = some (.int .i64 kb)
  m1 : w.cell? ⟨mb, 1, none⟩ = some (.int .u8 l1)
  m2 : w.cell? ⟨mb, 2, none⟩ = some (.int .u8 l2)
  m3 : w.cell? ⟨mb, 3, none⟩ = some (.int .u8 l3)
  m4 : w.cell? ⟨mb, 4, none⟩ = some (.int .u8 l4)
  m5 : w.cell? ⟨mb, 5, none⟩ = some (.int .u8 l5)
theorem Dec.drewN {w : World} {ib mb : Nat} {ka kc kt kx ke kb l0 l1 l2 l3 l4 l5 : Int} (h : Dec w ib mb ka kc kt kx ke kb l0 l1 l2 l3 l4 l5) (n : Nat) : Dec (w.drewN n) ib mb ka kc kt kx ke kb l0 l1 l2 l3 l4 l5 :=
  ⟨h.i0, h.i1, h.i2, h.i3, h.i4, h.i5, h.m1, h.m2, h.m3, h.m4, h.m5⟩

theorem LkMem.drewN {w0 w : World} {fb mb : Nat} {fs msg : List Nat} (h : LkMem w0 w fb mb fs msg) (n : Nat) : LkMem w0 (w.drewN n) fb mb fs msg := ⟨below_dr h.below n, h.flo, h.byt, h.b1, h.n1, h.b2⟩
theorem MinAt.l01 {K : Nat → Int} {i : Nat} {m : Int} {ks l : List Int} (h : MinAt K i m ks l) (j : Nat) : 0 ≤ l.getD j 0 ∧ l.getD j 0 ≤ 1 := by
  obtain ⟨-, -, -, -, d5⟩ := h
  rw [d5 j]; split <;> omega
/-- the number behind 'minCount' -/
theorem sum_six (l : List Int) : sumTo l 6 = l.getD 0 0 + l.getD 1 0 + l.getD 2 0 + l.getD 3 0 + l.getD 4 0 + l.getD 5 0 := by simp only [sumTo]; omega

theorem Rel.hasInt {m : Mo} {n : Nat} {f : F6} (h : Rel m n f) (hn : n ≤ 1000) (i : Nat) (hi : i < 6) : HasInt (f.list.getD i 0) (ceilI (f.list.getD i 0)) := by
  have key : ∀ {w N : Nat}, FZ w N → N ≤ 39000000000000000000 → HasInt w (ceilI w) := by
    intro w N h1 h2
    obtain ⟨a, b, c, d⟩ := ceil_FZ h1 h2
    exact ⟨a, by rw [d]; exact c⟩
  obtain ⟨A, t, c, x, E, B, hA, hA1, -, -, -, hT, hC, hX, -, hE, hE1, -, -, hB, hB1, -⟩ := h
  have i6 : i = 0 ∨ i = 1 ∨ i = 2 ∨ i = 3 ∨ i = 4 ∨ i = 5 := by omega
  rcases i6 with rfl | rfl | rfl | rfl | rfl | rfl
  · exact key hA (by omega)
  · obtain ⟨N, h1, h2, h3, h4⟩ := hC; exact key h1 (by omega)
  · obtain ⟨N, h1, h2, h3, h4⟩ := hT; exact key h1 (by omega)
  · obtain ⟨N, h1, h2, h3, h4⟩ := hX; exact key h1 (by omega)
  · exact key hE (by omega)
  · exact key hB (by omega)

set_option maxRecDepth 100000 in
set_option maxHeartbeats 4000000 in
theorem dec_lt {w0 w : World} {fb mb mcap p n : Nat} {msg : List Nat} {f : F6} {m : Mo} {Q : Exit → Act → World → Prop} {T : Nat → Value} {c2 c6 : Value} (HM : LkMem w0 w fb mb f.list msg) (h4 : n < 4) (hT : T 211 = .bool (decide ((n : Int) ≥ 4)))
    (hback : ∀ T', Q .normal (fr (.slice (some ⟨mb, 0, none⟩) msg.length mcap) (.int .i64 p) c2 c6 (.slice (some ⟨fb, 0, none⟩) 6 6) (.int .i64 n) T') w) : Code.wp Tryz.prog lkCond Q (fr (.slice (some ⟨mb, 0, none⟩) msg.length mcap) (.int .i64 p) c2 c6 (.slice (some ⟨fb, 0, none⟩) 6 6) (.int .i64 n) T) w := by
  have hT' : T 211 = .bool false := by rw [hT, decide_eq_false (by omega)]
  have HB := Lib.hid hback
  clear hT hback
  unfold fr
  conv => arg 2; whnf
  go_wp2
  generalize hA : (Act.mk _ _ : Act) = A
  obtain ⟨T', rfl⟩ := fr_of (a := A) (c0 := .slice (some ⟨mb, 0, none⟩) msg.length mcap) (c1 := .int .i64 p) (c2 := c2) (c6 := c6) (c7 := .slice (some ⟨fb, 0, none⟩) 6 6) (c8 := .int .i64 n)
    (by rw [← hA]; rfl) (by rw [← hA]) (by rw [← hA]; rfl) (by rw [← hA]; rfl) (by rw [← hA]; rfl) (by rw [← hA]; rfl) (by rw [← hA]; rfl) (by rw [← hA]; rfl)
  exact HB.out T'

set_option maxRecDepth 100000 in
set_option maxHeartbeats 16000000 in
theorem dec_ge {w0 w : World} {fb mb mcap p n : Nat} {msg : List Nat} {f : F6} {m : Mo} {Q : Exit → Act → World → Prop} {T : Nat → Value} {c2 c6 : Value} (HM : LkMem w0 w fb mb f.list msg) (h4 : 4 ≤ n) (hT : T 211 = .bool (decide ((n : Int) ≥ 4))) (HR : Rel m n f) (hl : msg.length ≤ 1000) (hpn : p + n ≤ msg.length) (hs : ∀ i, i < msg.length → clsOf (msg.getD i 0) < 4)
    (hback : f.dec = 8 → ∀ T' w', LkMem w0 w' fb mb f.list msg → Q .normal (fr (.slice (some ⟨mb, 0, none⟩) msg.length mcap) (.int .i64 p) c2 c6 (.slice (some ⟨fb, 0, none⟩) 6 6) (.int .i64 n) T') w')
    (hret : f.dec ≠ 8 → ∀ T' w', Below w0.heap.size w0 w' → Q .ret (fr (.slice (some ⟨mb, 0, none⟩) msg.length mcap) (.int .i64 p) c2 (.int .i64 (lkMode f.dec)) (.slice (some ⟨fb, 0, none⟩) 6 6) (.int .i64 n) T') w') : Code.wp Tryz.prog lkCond Q (fr (.slice (some ⟨mb, 0, none⟩) msg.length mcap) (.int .i64 p) c2 c6 (.slice (some ⟨fb, 0, none⟩) 6 6) (.int .i64 n) T) w := by
  have hT' : T 211 = .bool true := by rw [hT, decide_eq_true (by omega)]
  have HB := Lib.hid hback
  have HX := Lib.hid hret
  have HS := Lib.hid hs
  obtain ⟨F, i, j, -, -, -, -, -, -, -, -, -, -, kab, kcx, kce, k0, kb5, kx5, ke5, kt5, kt0, kc0⟩ := HR.ints (by omega)
  have kce := kce (by omega)
  have hint := Lib.hid (HR.hasInt (by omega))
  have hK5 : Hid (∀ i, i < 6 → ceilI (f.list.getD i 0) ≤ 5000) := by
    intro i hi
    have i6 : i = 0 ∨ i = 1 ∨ i = 2 ∨ i = 3 ∨ i = 4 ∨ i = 5 := by omega
    rcases i6 with rfl | rfl | rfl | rfl | rfl | rfl
    · show ceilI f.a ≤ 5000; omega
    · show ceilI f.c ≤ 5000; omega
    · show ceilI f.t ≤ 5000; omega
    · show ceilI f.x ≤ 5000; omega
    · show ceilI f.e ≤ 5000; omega
    · show ceilI f.b ≤ 5000; omega
  have DEC : Hid (f.dec = if ceilI f.a < ceilI f.c ∧ ceilI f.a < ceilI f.t then 1 else if ceilI f.t < ceilI f.a ∧ ceilI f.t < ceilI f.c then 2 else if ceilI f.c + 1 < ceilI f.a ∧ ceilI f.c + 1 < ceilI f.e ∧ ceilI f.c + 1 < ceilI f.t then 4 else 8) := rfl
  have HK : Hid (ceilI f.a = ceilI (f.list.getD 0 0) ∧ ceilI f.c = ceilI (f.list.getD 1 0) ∧ ceilI f.t = ceilI (f.list.getD 2 0) ∧ ceilI f.x = ceilI (f.list.getD 3 0) ∧ ceilI f.e = ceilI (f.list.getD 4 0) ∧ ceilI f.b = ceilI (f.list.getD 5 0)) := ⟨rfl, rfl, rfl, rfl, rfl, rfl⟩
  generalize ceilI f.a = ka at *
  generalize ceilI f.c = kc at *
  generalize ceilI f.t = kt at *
  generalize ceilI f.x = kx at *
  generalize ceilI f.e = ke at *
  generalize ceilI f.b = kb at *
  have HW := Lib.hid HM
  clear hT hback hret hs HR HM F i j
  have m28 := make28 6 (by decide) (by decide)
  have m49 := make49 6 6 (by decide) (by decide) (by decide)
  unfold fr
  conv => arg 2; whnf
  go_upto_region 61 with fail
  generalize hw2 : (w.alloc _).alloc _ = w2
  have hsz : (w.alloc (Obj.cells (irow IntKind.i64 (zs 6)) 3)).heap.size = w.heap.size + 1 := by simp
  have MM : MinMem w0.heap.size w2 w2 fb w.heap.size (w.heap.size + 1) f.list (zs 6) (zs 6) := by
    have h := HW.out
    have hs1 := h.below.size
    have hb2 := h.b2
    refine ⟨Below.refl _ _, ?_, ?_, ?_, hs1, by omega, by omega, by omega, by omega, rfl, by simp, by simp⟩
    · rw [← hw2]; exact (h.flo.alloc _).alloc _
    · rw [← hw2]; exact (Row.new w .i64 3 (zs 6)).alloc _
    · rw [← hw2, ← hsz]; exact Row.new (w.alloc (Obj.cells (irow IntKind.i64 (zs 6)) 3)) .u8 5 (zs 6)
  have HB2 : Hid (Below w0.heap.size w0 w2) := by
    have h := HW.out
    rw [← hw2]; exact (h.below.alloc h.below.size _).alloc (by have := h.below.size; rw [hsz]; omega) _
  have HY2 : Hid (Bytes w2 mb msg) := by rw [← hw2]; exact (HW.out.byt.alloc _).alloc _
  have HBB := Lib.hid (And.intro HW.out.b1 HW.out.n1)
  generalize w.heap.size = ib at *
  clear hw2 hsz m28 m49 HW
  have MM := Lib.hid MM
  go_upto_region 63 with (first | (go_at_call 179; refine (mins_calls (K := fun i => ceilI (f.list.getD i 0)) MM.out hint.out hK5.out).mono ?_; rintro e w3 ⟨mn, ks, l, rfl, hmm, hat⟩; have hl01 := hat.l01; have HMM := Lib.hid hmm; have HAT := Lib.hid hat; have HL01 := Lib.hid hl01; clear hmm hat hl01) | (go_at_call 180; refine (minCount_calls HMM.out.mins HMM.out.ll HL01.out).mono ?_; rintro e w4 ⟨rfl, rfl⟩))
  have HM3 : Hid (LkMem w0 w4 fb mb f.list msg) := by
    have h := HMM.out
    have hb := HB2.out.trans h.below
    exact ⟨hb, h.flo, HY2.out.below h.below HBB.out.2, HBB.out.1, HBB.out.2, h.flo.lt⟩
  have lk := HMM.out.lk
  have ll := HMM.out.ll
  have i0 := HMM.out.ints.cell (i := 0) (by omega)
  have i1 := HMM.out.ints.cell (i := 1) (by omega)
  have i2 := HMM.out.ints.cell (i := 2) (by omega)
  have i3 := HMM.out.ints.cell (i := 3) (by omega)
  have i4 := HMM.out.ints.cell (i := 4) (by omega)
  have i5 := HMM.out.ints.cell (i := 5) (by omega)
  have z1 := HMM.out.mins.cell (i := 1) (by omega)
  have z2 := HMM.out.mins.cell (i := 2) (by omega)
  have z3 := HMM.out.mins.cell (i := 3) (by omega)
  have z4 := HMM.out.mins.cell (i := 4) (by omega)
  obtain ⟨d1, -, d3, d4, d5⟩ := HAT.out
  dsimp only at d1 d3 d4 d5
  obtain ⟨e0, e1, e2, e3, e4, e5⟩ := HK.out
  rw [d4 0 (by omega), ← e0] at i0
  rw [d4 1 (by omega), ← e1] at i1
  rw [d4 2 (by omega), ← e2] at i2
  rw [d4 3 (by omega), ← e3] at i3
  rw [d4 4 (by omega), ← e4] at i4
  rw [d4 5 (by omega), ← e5] at i5
  have hmn : (mn = ka ∨ mn = kc ∨ mn = kt ∨ mn = kx ∨ mn = ke ∨ mn = kb) ∧ mn ≤ ka ∧ mn ≤ kc ∧ mn ≤ kt ∧ mn ≤ kx ∧ mn ≤ ke ∧ mn ≤ kb := by
    have q0 := d1 0 (by omega); have q1 := d1 1 (by omega); have q2 := d1 2 (by omega); have q3 := d1 3 (by omega); have q4 := d1 4 (by omega); have q5 := d1 5 (by omega)
    simp only [← e0, ← e1, ← e2, ← e3, ← e4, ← e5] at q0 q1 q2 q3 q4 q5
    refine ⟨?_, q0, q1, q2, q3, q4, q5⟩
    obtain ⟨j, hj, hjm⟩ := d3 (by omega)
    have j6 : j = 0 ∨ j = 1 ∨ j = 2 ∨ j = 3 ∨ j = 4 ∨ j = 5 := by omega
    rcases j6 with rfl | rfl | rfl | rfl | rfl | rfl
    · left; rw [e0]; exact hjm
    · right; left; rw [e1]; exact hjm
    · right; right; left; rw [e2]; exact hjm
    · right; right; right; left; rw [e3]; exact hjm
    · right; right; right; right; left; rw [e4]; exact hjm
    · right; right; right; right; right; rw [e5]; exact hjm
  have L0 : l.getD 0 0 = if ka = mn then 1 else 0 := by rw [d5, e0]; simp only [show (0 : Nat) < 6 from by decide, true_and]
  have L1 : l.getD 1 0 = if kc = mn then 1 else 0 := by rw [d5, e1]; simp only [show (1 : Nat) < 6 from by decide, true_and]
  have L2 : l.getD 2 0 = if kt = mn then 1 else 0 := by rw [d5, e2]; simp only [show (2 : Nat) < 6 from by decide, true_and]
  have L3 : l.getD 3 0 = if kx = mn then 1 else 0 := by rw [d5, e3]; simp only [show (3 : Nat) < 6 from by decide, true_and]
  have L4 : l.getD 4 0 = if ke = mn then 1 else 0 := by rw [d5, e4]; simp only [show (4 : Nat) < 6 from by decide, true_and]
  have L5 : l.getD 5 0 = if kb = mn then 1 else 0 := by rw [d5, e5]; simp only [show (5 : Nat) < 6 from by decide, true_and]
  clear d1 d3 d4 d5 e0 e1 e2 e3 e4 e5
  have hsum := sum_six l
  generalize sumTo l 6 = s at *
  generalize l.getD 0 0 = l0 at *
  generalize l.getD 1 0 = l1 at *
  generalize l.getD 2 0 = l2 at *
  generalize l.getD 3 0 = l3 at *
  generalize l.getD 4 0 = l4 at *
  generalize l.getD 5 0 = l5 at *
  have kab' : decide (ka < kb) = true := decide_eq_true kab
  have kba : decide (kb < ka) = false := decide_eq_false (by omega)
  clear HMM HAT HL01 HK hK5 hint MM lk ll
  by_cases cA : ka < kc ∧ ka < kt
  · have q1 : decide (ka < kc) = true := decide_eq_true cA.1
    have q2 : decide (ka < kt) = true := decide_eq_true (by omega)
    have q3 : decide (ka < kx) = true := decide_eq_true (by omega)
    have q4 : decide (ka < ke) = true := decide_eq_true (by omega)
    have hd : f.dec = 1 := by rw [DEC.out, if_pos cA]
    have HX2 := Lib.hid (HX.out (by rw [hd]; decide))
    rw [hd] at HX2
    clear hd DEC HX HB
    clear cA L0 L1 L2 L3 L4 L5 hsum
    go_quiet (fail)
    go_wp2
    generalize hA : (Act.mk _ _ : Act) = A
    obtain ⟨T', rfl⟩ := fr_of (a := A) (c0 := .slice (some ⟨mb, 0, none⟩) msg.length mcap) (c1 := .int .i64 p) (c2 := c2) (c6 := .int .i64 (lkMode 1)) (c7 := .slice (some ⟨fb, 0, none⟩) 6 6) (c8 := .int .i64 n)
      (by rw [← hA]; rfl) (by rw [← hA]) (by rw [← hA]; rfl) (by rw [← hA]; rfl) (by rw [← hA]; rfl) (by rw [← hA]; rfl) (by rw [← hA]; rfl) (by rw [← hA]; rfl)
    exact HX2.out T' _ (by repeat (first | exact HM3.out.below | refine below_dr ?_ _))
  · have hc1 : ka < kc ∨ ¬ ka < kc := by omega
    by_cases cT : kt < ka ∧ kt < kc
    · have hq : True := trivial
      rcases hc1 with hc1 | hc1
      · have q1 : decide (ka < kc) = true := decide_eq_true (by omega)
        have q2 : decide (ka < kt) = false := decide_eq_false (by omega)
        have hd : f.dec = 2 := by rw [DEC.out, if_neg cA, if_pos cT]
        have HX2 := Lib.hid (HX.out (by rw [hd]; decide))
        rw [hd] at HX2
        clear hd DEC HX HB
        have hm : mn = kt := by omega
        subst hm
        rw [if_neg (by omega)] at L0
        rw [if_neg (by omega)] at L1
        rw [if_neg (by omega)] at L3
        rw [if_neg (by omega)] at L4
        rw [if_neg (by omega)] at L5
        rw [if_pos rfl] at L2
        subst L0 L1 L2 L3 L4 L5
        have hs1 : s = 1 := by omega
        subst hs1
        clear cA cT hsum hmn hc1
        go_quiet (fail)
        go_wp2
        go_quiet (fail)
        go_wp2
        generalize hA : (Act.mk _ _ : Act) = A
        obtain ⟨T', rfl⟩ := fr_of (a := A) (c0 := .slice (some ⟨mb, 0, none⟩) msg.length mcap) (c1 := .int .i64 p) (c2 := c2) (c6 := .int .i64 (lkMode 2)) (c7 := .slice (some ⟨fb, 0, none⟩) 6 6) (c8 := .int .i64 n)
          (by rw [← hA]; rfl) (by rw [← hA]) (by rw [← hA]; rfl) (by rw [← hA]; rfl) (by rw [← hA]; rfl) (by rw [← hA]; rfl) (by rw [← hA]; rfl) (by rw [← hA]; rfl)
        exact HX2.out T' _ (by repeat (first | exact HM3.out.below | refine below_dr ?_ _))
      · have q1 : decide (ka < kc) = false := decide_eq_false (by omega)
        have hd : f.dec = 2 := by rw [DEC.out, if_neg cA, if_pos cT]
        have HX2 := Lib.hid (HX.out (by rw [hd]; decide))
        rw [hd] at HX2
        clear hd DEC HX HB
        have hm : mn = kt := by omega
        subst hm
        rw [if_neg (by omega)] at L0
        rw [if_neg (by omega)] at L1
        rw [if_neg (by omega)] at L3
        rw [if_neg (by omega)] at L4
        rw [if_neg (by omega)] at L5
        rw [if_pos rfl] at L2
        subst L0 L1 L2 L3 L4 L5
        have hs1 : s = 1 := by omega
        subst hs1
        clear cA cT hsum hmn hc1
        go_quiet (fail)
        go_wp2
        go_quiet (fail)
        go_wp2
        generalize hA : (Act.mk _ _ : Act) = A
        obtain ⟨T', rfl⟩ := fr_of (a := A) (c0 := .slice (some ⟨mb, 0, none⟩) msg.length mcap) (c1 := .int .i64 p) (c2 := c2) (c6 := .int .i64 (lkMode 2)) (c7 := .slice (some ⟨fb, 0, none⟩) 6 6) (c8 := .int .i64 n)
          (by rw [← hA]; rfl) (by rw [← hA]) (by rw [← hA]; rfl) (by rw [← hA]; rfl) (by rw [← hA]; rfl) (by rw [← hA]; rfl) (by rw [← hA]; rfl) (by rw [← hA]; rfl)
        exact HX2.out T' _ (by repeat (first | exact HM3.out.below | refine below_dr ?_ _))
    · by_cases cC : kc + 1 < ka ∧ kc + 1 < ke ∧ kc + 1 < kt
      · have q1 : decide (ka < kc) = false := decide_eq_false (by omega)
        have q5 : decide (kc + 1 < ka) = true := decide_eq_true (by omega)
        have q6 : decide (kc + 1 < kb) = true := decide_eq_true (by omega)
        have q7 : decide (kc + 1 < ke) = true := decide_eq_true (by omega)
        have q8 : decide (kc + 1 < kt) = true := decide_eq_true (by omega)
        have hd : f.dec = 4 := by rw [DEC.out, if_neg cA, if_neg cT, if_pos cC]
        have HX2 := Lib.hid (HX.out (by rw [hd]; decide))
        rw [hd] at HX2
        clear hd DEC HX HB
        have hm : mn = kc := by omega
        subst hm
        rw [if_neg (by omega)] at L0
        rw [if_neg (by omega)] at L2
        rw [if_neg (by omega)] at L4
        rw [if_neg (by omega)] at L5
        rw [if_pos rfl] at L1
        have hx : mn < kx ∨ kx = mn := by omega
        rcases hx with hx | hx
        · rw [if_neg (by omega)] at L3
          subst L0 L1 L2 L3 L4 L5
          have hs1 : s = 1 := by omega
          subst hs1
          have q9 : decide (mn < kx) = true := decide_eq_true hx
          clear cA cT hsum hmn hc1
          go_quiet (fail)
          go_wp2
          go_quiet (fail)
          go_wp2
          go_quiet (fail)
          go_wp2
          go_quiet (fail)
          go_wp2
          generalize hA : (Act.mk _ _ : Act) = A
          obtain ⟨T', rfl⟩ := fr_of (a := A) (c0 := .slice (some ⟨mb, 0, none⟩) msg.length mcap) (c1 := .int .i64 p) (c2 := c2) (c6 := .int .i64 (lkMode 4)) (c7 := .slice (some ⟨fb, 0, none⟩) 6 6) (c8 := .int .i64 n)
            (by rw [← hA]; rfl) (by rw [← hA]) (by rw [← hA]; rfl) (by rw [← hA]; rfl) (by rw [← hA]; rfl) (by rw [← hA]; rfl) (by rw [← hA]; rfl) (by rw [← hA]; rfl)
          exact HX2.out T' _ (by repeat (first | exact HM3.out.below | refine below_dr ?_ _))
        · rw [if_pos hx] at L3
          subst hx
          subst L0 L1 L2 L3 L4 L5
          have hs1 : s = 2 := by omega
          subst hs1
          clear cA cT hsum hmn hc1
          go_quiet (fail)
          go_wp2
          go_quiet (fail)
          go_wp2
          go_quiet (fail)
          go_wp2
          go_quiet (fail)
          go_wp2
          go_quiet (fail)
          go_wp2
          have HW0 : Hid (Below w0.heap.size w0 w4 ∧ Bytes w4 mb msg) := ⟨HM3.out.below, HM3.out.byt⟩
          clear i0 i1 i2 i3 i4 i5 z1 z2 z3 z4 HM3
          go_loopw [17] (fun i wr => ∃ q : Nat, q ≤ 2100 ∧ i = .int .i64 q ∧ Hid (Below w0.heap.size w0 wr ∧ Bytes wr mb msg)) (fun i _ => msg.length - (intOf i).toNat)
          case atStart => exact ⟨p + n + 1, by omega, by go_num, by repeat (first | exact HW0 | exact ⟨below_dr (HW0.out.1) _, HW0.out.2⟩ | exact ⟨below_dr (below_dr (HW0.out.1) _) _, HW0.out.2⟩ | exact ⟨below_dr (below_dr (below_dr (HW0.out.1) _) _) _, HW0.out.2⟩ | exact ⟨below_dr (below_dr (below_dr (below_dr (HW0.out.1) _) _) _) _, HW0.out.2⟩ | exact ⟨below_dr (below_dr (below_dr (below_dr (below_dr (HW0.out.1) _) _) _) _) _, HW0.out.2⟩)⟩
          case round =>
            clear HW0
            obtain ⟨q, hq, rfl, HWq⟩ := hrel
            have HM3 : Hid (Below w0.heap.size w0 wr ∧ Bytes wr mb msg) := HWq
            by_cases hql : q < msg.length
            · have x0 := HWq.out.2.2 q hql
              have hc4 := HS.out q hql
              generalize msg.getD q 0 = ch at *
              have h187 := fun w => sep_calls (n := ch) rfl hc4 w
              have h184 := fun w => x12_calls (n := ch) rfl hc4 w
              have hqi : (q : Int) < (msg.length : Int) := by omega
              cases hcl : (clsOf ch == 1) with
              | false =>
                simp only [hcl, Bool.not_false] at h184
                go_wp2_with (first | (go_at_call 187; refine (h187 _).mono ?_; rintro e w5 ⟨rfl, rfl⟩) | (go_at_call 184; refine (h184 _).mono ?_; rintro e w5 ⟨rfl, rfl⟩))
                exact ⟨⟨q + 1, by omega, by go_num, HWq⟩, by simp [intOf]; omega⟩
              | true =>
                simp only [hcl, Bool.not_true] at h184
                go_wp2_with (first | (go_at_call 187; refine (h187 _).mono ?_; rintro e w5 ⟨rfl, rfl⟩) | (go_at_call 184; refine (h184 _).mono ?_; rintro e w5 ⟨rfl, rfl⟩))
                generalize hA : (Act.mk _ _ : Act) = A
                obtain ⟨T', rfl⟩ := fr_of (a := A) (c0 := .slice (some ⟨mb, 0, none⟩) msg.length mcap) (c1 := .int .i64 p) (c2 := c2) (c6 := .int .i64 (lkMode 4)) (c7 := .slice (some ⟨fb, 0, none⟩) 6 6) (c8 := .int .i64 n)
                  (by rw [← hA]; rfl) (by rw [← hA]) (by rw [← hA]; rfl) (by rw [← hA]; rfl) (by rw [← hA]; rfl) (by rw [← hA]; rfl) (by rw [← hA]; rfl) (by rw [← hA]; rfl)
                exact HX2.out T' _ (HM3.out.1)
            · have hqi : ¬ (q : Int) < (msg.length : Int) := by omega
              go_wp2
              generalize hA : (Act.mk _ _ : Act) = A
              obtain ⟨T', rfl⟩ := fr_of (a := A) (c0 := .slice (some ⟨mb, 0, none⟩) msg.length mcap) (c1 := .int .i64 p) (c2 := c2) (c6 := .int .i64 (lkMode 4)) (c7 := .slice (some ⟨fb, 0, none⟩) 6 6) (c8 := .int .i64 n)
                (by rw [← hA]; rfl) (by rw [← hA]) (by rw [← hA]; rfl) (by rw [← hA]; rfl) (by rw [← hA]; rfl) (by rw [← hA]; rfl) (by rw [← hA]; rfl) (by rw [← hA]; rfl)
              exact HX2.out T' _ (HM3.out.1)
      · have hK : f.dec = 8 := by rw [DEC.out, if_neg cA, if_neg cT, if_neg cC]
        have HB2' := Lib.hid (HB.out hK)
        clear hK DEC HX HB
        have hkc : kt < kc ∨ kc ≤ kt := by omega
        rcases hkc with hkc | hkc
        · have hkt : kt = ka := by omega
          subst hkt
          have hm : mn = kt := by omega
          subst hm
          rw [if_neg (by omega)] at L1
          rw [if_neg (by omega)] at L3
          rw [if_neg (by omega)] at L4
          rw [if_neg (by omega)] at L5
          rw [if_pos rfl] at L0 L2
          subst L0 L1 L2 L3 L4 L5
          have hs1 : s = 2 := by omega
          subst hs1
          have q1 : decide (mn < kc) = true := decide_eq_true hkc
          have q2 : decide (mn < mn) = false := decide_eq_false (by omega)
          have q5 : decide (kc + 1 < mn) = false := decide_eq_false (by omega)
          clear cA cT cC hsum hmn hc1
          go_quiet (fail)
          go_wp2
          go_quiet (fail)
          go_wp2
          go_quiet (fail)
          go_wp2
          generalize hA : (Act.mk _ _ : Act) = A
          obtain ⟨T', rfl⟩ := fr_of (a := A) (c0 := .slice (some ⟨mb, 0, none⟩) msg.length mcap) (c1 := .int .i64 p) (c2 := c2) (c6 := c6) (c7 := .slice (some ⟨fb, 0, none⟩) 6 6) (c8 := .int .i64 n)
            (by rw [← hA]; rfl) (by rw [← hA]) (by rw [← hA]; rfl) (by rw [← hA]; rfl) (by rw [← hA]; rfl) (by rw [← hA]; rfl) (by rw [← hA]; rfl) (by rw [← hA]; rfl)
          exact HB2'.out T' _ (by repeat (first | exact HM3.out | refine LkMem.drewN ?_ _))
        · as_aux_lemma =>
            have q1 : decide (ka < kc) = false := decide_eq_false (by omega)
            have hm : mn = kc := by omega
            subst hm
            rw [if_neg (by omega)] at L5
            rw [if_pos rfl] at L1
            subst L1 L5
            have b0 : 0 ≤ l0 ∧ l0 ≤ 1 := by rw [L0]; split <;> omega
            have b2 : 0 ≤ l2 ∧ l2 ≤ 1 := by rw [L2]; split <;> omega
            have b3 : 0 ≤ l3 ∧ l3 ≤ 1 := by rw [L3]; split <;> omega
            have b4 : 0 ≤ l4 ∧ l4 ≤ 1 := by rw [L4]; split <;> omega
            clear L0 L2 L3 L4
            have hs0 : ((1 + l2 + l3 + l4 : Int) == 0) = false := by simp; omega
            have hkk : ¬ mn + 1 < ka ∨ (mn + 1 < ka ∧ ¬ mn + 1 < ke) ∨ (mn + 1 < ka ∧ mn + 1 < ke ∧ ¬ mn + 1 < kt) := by omega
            clear cA cT cC hmn hc1
            by_cases hs1 : s = 1
            · have hq : True := trivial
              have w2 : l2 = 0 := by omega
              have w3 : l3 = 0 := by omega
              have w4' : l4 = 0 := by omega
              have w0' : l0 = 0 := by omega
              subst hs1 w2 w3 w4' w0'
              clear hs0 hsum b0 b2 b3 b4
              rcases hkk with hk | hk | hk
              · have q5 : decide (mn + 1 < ka) = false := decide_eq_false (by omega)
                clear hk
                go_quiet (fail)
                go_wp2
                go_quiet (fail)
                go_wp2
                go_quiet (fail)
                go_wp2
                generalize hA : (Act.mk _ _ : Act) = A
                obtain ⟨T', rfl⟩ := fr_of (a := A) (c0 := .slice (some ⟨mb, 0, none⟩) msg.length mcap) (c1 := .int .i64 p) (c2 := c2) (c6 := c6) (c7 := .slice (some ⟨fb, 0, none⟩) 6 6) (c8 := .int .i64 n)
                  (by rw [← hA]; rfl) (by rw [← hA]) (by rw [← hA]; rfl) (by rw [← hA]; rfl) (by rw [← hA]; rfl) (by rw [← hA]; rfl) (by rw [← hA]; rfl) (by rw [← hA]; rfl)
                exact HB2'.out T' _ (by repeat (first | exact HM3.out | refine LkMem.drewN ?_ _))
              · have q5 : decide (mn + 1 < ka) = true := decide_eq_true (by omega)
                have q6 : decide (mn + 1 < kb) = true := decide_eq_true (by omega)
                have q7 : decide (mn + 1 < ke) = false := decide_eq_false (by omega)
                clear hk
                go_quiet (fail)
                go_wp2
                go_quiet (fail)
                go_wp2
                go_quiet (fail)
                go_wp2
                generalize hA : (Act.mk _ _ : Act) = A
                obtain ⟨T', rfl⟩ := fr_of (a := A) (c0 := .slice (some ⟨mb, 0, none⟩) msg.length mcap) (c1 := .int .i64 p) (c2 := c2) (c6 := c6) (c7 := .slice (some ⟨fb, 0, none⟩) 6 6) (c8 := .int .i64 n)
                  (by rw [← hA]; rfl) (by rw [← hA]) (by rw [← hA]; rfl) (by rw [← hA]; rfl) (by rw [← hA]; rfl) (by rw [← hA]; rfl) (by rw [← hA]; rfl) (by rw [← hA]; rfl)
                exact HB2'.out T' _ (by repeat (first | exact HM3.out | refine LkMem.drewN ?_ _))
              · have q5 : decide (mn + 1 < ka) = true := decide_eq_true (by omega)
                have q6 : decide (mn + 1 < kb) = true := decide_eq_true (by omega)
                have q7 : decide (mn + 1 < ke) = true := decide_eq_true (by omega)
                have q8 : decide (mn + 1 < kt) = false := decide_eq_false (by omega)
                clear hk
                go_quiet (fail)
                go_wp2
                go_quiet (fail)
                go_wp2
                go_quiet (fail)
                go_wp2
                generalize hA : (Act.mk _ _ : Act) = A
                obtain ⟨T', rfl⟩ := fr_of (a := A) (c0 := .slice (some ⟨mb, 0, none⟩) msg.length mcap) (c1 := .int .i64 p) (c2 := c2) (c6 := c6) (c7 := .slice (some ⟨fb, 0, none⟩) 6 6) (c8 := .int .i64 n)
                  (by rw [← hA]; rfl) (by rw [← hA]) (by rw [← hA]; rfl) (by rw [← hA]; rfl) (by rw [← hA]; rfl) (by rw [← hA]; rfl) (by rw [← hA]; rfl) (by rw [← hA]; rfl)
                exact HB2'.out T' _ (by repeat (first | exact HM3.out | refine LkMem.drewN ?_ _))
            · have hq : True := trivial
              have hs2 : (s == 1) = false := by simp; omega
              rcases hkk with hk | hk | hk
              · have q5 : decide (mn + 1 < ka) = false := decide_eq_false (by omega)
                clear hk
                go_quiet (fail)
                go_wp2
                go_quiet (fail)
                go_wp2
                go_quiet (fail)
                go_wp2
                generalize hA : (Act.mk _ _ : Act) = A
                obtain ⟨T', rfl⟩ := fr_of (a := A) (c0 := .slice (some ⟨mb, 0, none⟩) msg.length mcap) (c1 := .int .i64 p) (c2 := c2) (c6 := c6) (c7 := .slice (some ⟨fb, 0, none⟩) 6 6) (c8 := .int .i64 n)
                  (by rw [← hA]; rfl) (by rw [← hA]) (by rw [← hA]; rfl) (by rw [← hA]; rfl) (by rw [← hA]; rfl) (by rw [← hA]; rfl) (by rw [← hA]; rfl) (by rw [← hA]; rfl)
                exact HB2'.out T' _ (by repeat (first | exact HM3.out | refine LkMem.drewN ?_ _))
              · have q5 : decide (mn + 1 < ka) = true := decide_eq_true (by omega)
                have q6 : decide (mn + 1 < kb) = true := decide_eq_true (by omega)
                have q7 : decide (mn + 1 < ke) = false := decide_eq_false (by omega)
                clear hk
                go_quiet (fail)
                go_wp2
                go_quiet (fail)
                go_wp2
                go_quiet (fail)
                go_wp2
                generalize hA : (Act.mk _ _ : Act) = A
                obtain ⟨T', rfl⟩ := fr_of (a := A) (c0 := .slice (some ⟨mb, 0, none⟩) msg.length mcap) (c1 := .int .i64 p) (c2 := c2) (c6 := c6) (c7 := .slice (some ⟨fb, 0, none⟩) 6 6) (c8 := .int .i64 n)
                  (by rw [← hA]; rfl) (by rw [← hA]) (by rw [← hA]; rfl) (by rw [← hA]; rfl) (by rw [← hA]; rfl) (by rw [← hA]; rfl) (by rw [← hA]; rfl) (by rw [← hA]; rfl)
                exact HB2'.out T' _ (by repeat (first | exact HM3.out | refine LkMem.drewN ?_ _))
              · have q5 : decide (mn + 1 < ka) = true := decide_eq_true (by omega)
                have q6 : decide (mn + 1 < kb) = true := decide_eq_true (by omega)
                have q7 : decide (mn + 1 < ke) = true := decide_eq_true (by omega)
                have q8 : decide (mn + 1 < kt) = false := decide_eq_false (by omega)
                clear hk
                go_quiet (fail)
                go_wp2
                go_quiet (fail)
                go_wp2
                go_quiet (fail)
                go_wp2
                generalize hA : (Act.mk _ _ : Act) = A
                obtain ⟨T', rfl⟩ := fr_of (a := A) (c0 := .slice (some ⟨mb, 0, none⟩) msg.length mcap) (c1 := .int .i64 p) (c2 := c2) (c6 := c6) (c7 := .slice (some ⟨fb, 0, none⟩) 6 6) (c8 := .int .i64 n)
                  (by rw [← hA]; rfl) (by rw [← hA]) (by rw [← hA]; rfl) (by rw [← hA]; rfl) (by rw [← hA]; rfl) (by rw [← hA]; rfl) (by rw [← hA]; rfl) (by rw [← hA]; rfl)
                exact HB2'.out T' _ (by repeat (first | exact HM3.out | refine LkMem.drewN ?_ _))
end Go.Proofs.YtcnallabiffemaaGreatDoor
