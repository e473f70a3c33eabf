import Derived.Test.YtcnallabiffemaaGreatDoorG0
import Derived.Deep.DeepCutAuto
import Derived.Deep.LoopGhost
import Derived.Deep.CutBlock
import Derived.Deep.RegionWith
import Derived.BigRegion
import Derived.Test.YtcnallabiffemaaGreatDoorMPk
import Derived.Test.YtcnallabiffemaaGreatDoorTie
import Derived.Test.YtcnallabiffemaaGreatDoorCards
import Derived.ProofKit
import Derived.OpenShut
import Derived.ChangeSlices
import Derived.Carry
import Derived.Lay
import Derived.SevenTiedAt
import Derived.Stop.Joined
import Derived.Test.YtcnallabiffemaaGreatDoorMPb
import Derived.Test.YtcnallabiffemaaGreatDoorMPa
import Derived.Test.YtcnallabiffemaaGreatDoorMPz

/- The reference's placement: steps of its walk; the inner size. -/
set_option linter.unusedVariables false
set_option linter.unusedSimpArgs false
namespace Go.Proofs.YtcnallabiffemaaGreatDoor
open Go.RowKit

theorem OccI.setS1 {rows cols : Nat} {m occ o' : Nat} {bits : List Int} {p : Int × Int} (h : OccI bits occ) (hp : put1 rows cols occ p = some o') :
    InR rows cols p ∧ OccI (bits.set (idxR rows cols p.1 p.2).toNat (m : Int)) o' := by
  unfold put1 at hp
  split at hp
  · rename_i hc
    simp only [Bool.and_eq_true] at hc
    obtain rfl : occ ||| 1 <<< (idxR rows cols p.1 p.2).toNat = o' := by simpa using hp
    refine ⟨inRB_ok hc.1, fun n hn => ?_⟩
    have hn' : n < bits.length := by simpa using hn
    rw [getD_set hn', testBit_put]
    by_cases e : (idxR rows cols p.1 p.2).toNat = n
    · rw [if_pos e]; simp [e]
    · rw [if_neg e, h n hn']; simp [e]
  · cases hp
theorem OccI.setLS {rows cols pos : Nat} : ∀ (ps : List (Int × Int)) (k occ o' : Nat) (bits : List Int), OccI bits occ → putAll rows cols ps occ = some o' →
    (∀ p ∈ ps, InR rows cols p) ∧ OccI (setLS rows cols pos k ps bits) o'
  | [], _, occ, o', bits, h, hp => ⟨(fun _ h => by cases h), by simp only [putAll, Option.some.injEq] at hp; subst hp; exact h⟩
  | p :: ps, k, occ, o', bits, h, hp => by
    rw [putAll] at hp
    obtain ⟨o1, h1, h2⟩ := Option.bind_eq_some_iff.1 hp
    obtain ⟨a, b⟩ := h.setS1 (m := 8 * pos + k) h1
    obtain ⟨c, d⟩ := OccI.setLS (pos := pos) ps (k + 1) o1 o' _ b h2
    refine ⟨fun q hq => ?_, d⟩
    rcases List.mem_cons.1 hq with hq | hq
    · rw [hq]; exact a
    · exact c q hq
theorem putEv_okS {rows cols : Nat} {ev : Nat × Int × Int} {s s' : PS} (hp : putEv rows cols ev s = some s') (h : OccI (foldS rows cols s.evs) s.occ) :
    s'.evs = ev :: s.evs ∧ (∀ p ∈ coords rows cols ev, InR rows cols p) ∧ OccI (foldS rows cols s'.evs) s'.occ := by
  unfold putEv at hp
  obtain ⟨o, h1, h2⟩ := Option.map_eq_some_iff.1 hp
  subst h2
  obtain ⟨a, b⟩ := OccI.setLS (pos := s.evs.length) _ 0 _ _ _ h h1
  exact ⟨rfl, a, b⟩
theorem OccI.initS (rows cols : Nat) : OccI (foldS rows cols []) 0 := by
  intro n hn
  have : n < rows * cols := by simpa [foldS] using hn
  simp [foldS, List.getElem?_replicate, this]

theorem upS_ok {rows cols : Nat} : ∀ (k : Nat) (row col : Int) (s : PS) (x : Int × Int × PS), upS rows cols k row col s = some x → s.evs.length ≤ x.2.2.evs.length ∧ okRC x.1 x.2.1
  | 0, _, _, _, _, h => by cases h
  | k + 1, row, col, s, x, h => by
    rw [upS] at h
    split at h
    · rename_i h0
      split at h
      · obtain ⟨s1, h1, h2⟩ := Option.bind_eq_some_iff.1 h
        obtain ⟨a, b⟩ := upS_ok k _ _ _ _ h2
        exact ⟨Nat.le_trans (upV_grow h1) a, b⟩
      · cases h; exact ⟨Nat.le_refl _, h0⟩
    · cases h
theorem downS_ok {rows cols : Nat} : ∀ (k : Nat) (row col : Int) (s : PS) (x : Int × Int × PS), downS rows cols k row col s = some x → s.evs.length ≤ x.2.2.evs.length ∧ okRC x.1 x.2.1
  | 0, _, _, _, _, h => by cases h
  | k + 1, row, col, s, x, h => by
    rw [downS] at h
    split at h
    · rename_i h0
      split at h
      · obtain ⟨s1, h1, h2⟩ := Option.bind_eq_some_iff.1 h
        obtain ⟨a, b⟩ := downS_ok k _ _ _ _ h2
        exact ⟨Nat.le_trans (downV_grow h1) a, b⟩
      · cases h; exact ⟨Nat.le_refl _, h0⟩
    · cases h
theorem outS_step {rows cols k : Nat} {row col : Int} {s f : PS} (h : outS rows cols (k + 1) row col s = some f) :
    okRC row col ∧ ((¬ (row < rows ∨ col < cols) ∧ s = f) ∨ ((row < rows ∨ col < cols) ∧ ∃ s1 x y, cornerG rows cols row col s = some s1 ∧ upS rows cols 200 row col s1 = some x ∧ downS rows cols 200 (x.1 + 1) (x.2.1 + 3) x.2.2 = some y ∧ outS rows cols k (y.1 + 3) (y.2.1 + 1) y.2.2 = some f)) := by
  rw [outS] at h
  split at h
  · rename_i h0
    refine ⟨h0, ?_⟩
    split at h
    · rename_i h3
      obtain ⟨s1, h1, h⟩ := Option.bind_eq_some_iff.1 h
      obtain ⟨x, h2, h⟩ := Option.bind_eq_some_iff.1 h
      obtain ⟨y, h4, h⟩ := Option.bind_eq_some_iff.1 h
      exact .inr ⟨h3, s1, x, y, h1, h2, h4, h⟩
    · rename_i h3
      exact .inl ⟨h3, by simpa using h⟩
  · cases h
theorem outS_grow {rows cols : Nat} : ∀ (k : Nat) (row col : Int) (s f : PS), outS rows cols k row col s = some f → s.evs.length ≤ f.evs.length
  | 0, _, _, _, _, h => by cases h
  | k + 1, row, col, s, f, h => by
    obtain ⟨_, h5⟩ := outS_step h
    rcases h5 with ⟨_, rfl⟩ | ⟨_, s1, x, y, h1, h2, h4, h5⟩
    · exact Nat.le_refl _
    · have a := cornerG_grow h1
      have b := (upS_ok _ _ _ _ _ h2).1
      have c := (downS_ok _ _ _ _ _ h4).1
      have := outS_grow k _ _ _ _ h5; omega

/-- the rows and columns of a symbol's modules of codewords -/
def inR0 (j : Nat) : Nat := syN j 0 - 2 * syN j 2
def inC0 (j : Nat) : Nat := syN j 1 - 2 * syN j 3
theorem in_ok : ∀ j, j < 29 → (inR0 j, inC0 j, syN j 4 + syN j 5) ∈ sizes ∧ 2 * syN j 2 ≤ syN j 0 ∧ 2 * syN j 3 ≤ syN j 1 ∧ syN j 0 ≤ 200 ∧ syN j 1 ≤ 200 := by decide +kernel
theorem sizes_bd : ∀ x ∈ sizes, 6 ≤ x.1 ∧ x.1 ≤ 120 ∧ 6 ≤ x.2.1 ∧ x.2.1 ≤ 120 ∧ x.2.2 ≤ 1800 ∧ x.1 * x.2.1 ≤ 14400 := by decide +kernel
/-- the two walks of the placement put the same -/
theorem placeS_ok {rows cols n : Nat} (hx : (rows, cols, n) ∈ sizes) : ∃ f g, placeS rows cols = some f ∧ placeG rows cols = some g ∧ f.evs = g.evs ∧ g.evs.length = n ∧ (fullB rows cols f.occ = true ∨ holeB rows cols f.occ = true) := by
  have h := chkS_ok _ hx
  obtain ⟨g, hg, hl⟩ := placeG_ok _ hx
  unfold chkS at h
  simp only at h hg hl
  rw [hg] at h
  cases hs : placeS rows cols with
  | none => rw [hs] at h; cases h
  | some f =>
    rw [hs] at h
    simp only [Bool.and_eq_true, Bool.or_eq_true] at h
    exact ⟨f, g, rfl, hg, evsB_eq _ _ h.1, hl, h.2⟩

theorem inner_calls {j : Nat} (hj : j < 29) (w : World) : Calls Tryz.prog 48 #[syV j] w fun e w' => e = .returned (.tuple #[.int .i64 (inR0 j), .int .i64 (inC0 j)]) ∧ Below w.heap.size w w' := by
  obtain ⟨_, a1, a2, a3, a4⟩ := in_ok j hj
  have e1 : ((inR0 j : Nat) : Int) = (syN j 0 : Int) - 2 * (syN j 2 : Int) := by unfold inR0; omega
  have e2 : ((inC0 j : Nat) : Int) = (syN j 1 : Int) - 2 * (syN j 3 : Int) := by unfold inC0; omega
  rw [e1, e2]
  unfold syV
  obtain ⟨l0, l1, l2, l3, l4, l5, l6⟩ := cells7 (new_last (w := w) rfl (.cells #[.int .i64 (syN j 0), .int .i64 (syN j 1), .int .i64 (syN j 2), .int .i64 (syN j 3), .int .i64 (syN j 4), .int .i64 (syN j 5), .int .i64 (syN j 6)] 30))
  clear e1 e2
  generalize syN j 0 = x0 at *
  generalize syN j 1 = x1 at *
  generalize syN j 2 = x2 at *
  generalize syN j 3 = x3 at *
  have i1 : IntKind.i64.wrap (2 * (x2 : Int)) = 2 * (x2 : Int) := IntWalk.i64_in _ (by omega)
  have i2 : IntKind.i64.wrap (2 * (x3 : Int)) = 2 * (x3 : Int) := IntWalk.i64_in _ (by omega)
  have i3 : IntKind.i64.wrap ((x0 : Int) - 2 * (x2 : Int)) = (x0 : Int) - 2 * (x2 : Int) := IntWalk.i64_in _ (by omega)
  have i4 : IntKind.i64.wrap ((x1 : Int) - 2 * (x3 : Int)) = (x1 : Int) - 2 * (x3 : Int) := IntWalk.i64_in _ (by omega)
  go_enter Tryz.func48, Tryz.ntmps48
  go_wp2
  go_quiet (fail)
  go_wp2
  go_ret2
  exact ⟨rfl, below_dr ((Below.refl _ _).alloc (Nat.le_refl _) _) _⟩
end Go.Proofs.YtcnallabiffemaaGreatDoor

/- The reference's placement does what its walk says: the head, and the walk. -/
set_option linter.unusedVariables false
set_option linter.unusedSimpArgs false
namespace Go.Proofs.YtcnallabiffemaaGreatDoor
open Go.RowKit

def PIS (w0 wx : World) (b bb rows cols : Nat) (s : PS) : Prop := OccI (foldS rows cols s.evs) s.occ ∧ SMem w0 wx b bb rows cols (foldS rows cols s.evs)
theorem PIS.drewN {w0 wx : World} {b bb rows cols : Nat} {s : PS} (h : PIS w0 wx b bb rows cols s) (n : Nat) : PIS w0 (wx.drewN n) b bb rows cols s := ⟨h.1, h.2.drewN n⟩
theorem visit_idx {rows cols : Nat} {ro co : Int} (z1 : 0 ≤ ro) (z2 : ro < rows) (z3 : 0 ≤ co) (z4 : co < cols) : ro * (cols : Int) + co = (((ro * (cols : Int) + co).toNat : Nat) : Int) ∧ (ro * (cols : Int) + co).toNat < rows * cols := by
  have h0 := Int.mul_nonneg z1 (by omega : (0 : Int) ≤ (cols : Int))
  have h2 := Int.mul_le_mul_of_nonneg_right (show ro + 1 ≤ (rows : Int) by omega) (by omega : (0 : Int) ≤ (cols : Int))
  rw [Int.add_mul] at h2
  have h3 : ((rows * cols : Nat) : Int) = (rows : Int) * (cols : Int) := by simp
  omega
theorem neg_dec (x : Int) : decide (x < 0) = !decide (0 ≤ x) := by by_cases h : x < 0 <;> simp [h] <;> omega
def FreeP (v : Bool) (w : World) (e : Ending) (w' : World) : Prop := e = .returned (.bool v) ∧ ∃ m, w' = w.drewN m
theorem free_visit {w0 w : World} {b bb rows cols : Nat} {s : PS} (hP : PIS w0 w b bb rows cols s) {ro co : Int} (z1 : 0 ≤ ro) (z2 : ro < rows) (z3 : 0 ≤ co) (z4 : co < cols) :
    Calls Tryz.prog 50 #[.pointer (some ⟨b, 0, none⟩), .int .i64 ro, .int .i64 co] w (FreeP (!s.occ.testBit (ro * (cols : Int) + co).toNat) w) := by
  obtain ⟨e1, e2⟩ := visit_idx z1 z2 z3 z4
  have hl : (ro * (cols : Int) + co).toNat < (foldS rows cols s.evs).length := by rw [length_foldS]; exact e2
  have r1 := hP.2.r1
  have c1 := hP.2.c1
  have ho := hP.1 _ hl
  refine (free_calls hP.2 ro co _ (by omega) (by omega) (by omega) (by omega) e1 hl).mono ?_
  rintro e w' ⟨rfl, h⟩
  refine ⟨?_, h⟩
  rw [← ho]
  rw [neg_dec]
def PutP (w0 : World) (b bb rows cols : Nat) (s : PS) (e : Ending) (w' : World) : Prop := e = .returned (.tuple #[]) ∧ PIS w0 w' b bb rows cols s
theorem utah_visit {w0 w : World} {b bb rows cols : Nat} {s s' : PS} (hP : PIS w0 w b bb rows cols s) {ro co : Int} (z1 : 0 ≤ ro) (z2 : ro < rows) (z3 : 0 ≤ co) (z4 : co < cols) (hp : putEv rows cols (0, ro, co) s = some s') (hl : s.evs.length ≤ 4000) :
    Calls Tryz.prog 51 #[.pointer (some ⟨b, 0, none⟩), .int .i64 ro, .int .i64 co, .int .i64 (s.evs.length : Nat)] w (PutP w0 b bb rows cols s') := by
  obtain ⟨v1, v2, v3⟩ := putEv_okS hp hP.1
  have r1 := hP.2.r1
  have c1 := hP.2.c1
  refine (utahS_calls hP.2 ro co s.evs.length (by omega) (by omega) (by omega) (by omega) v2 hl).mono ?_
  rintro e w' ⟨rfl, h⟩
  exact ⟨rfl, v3, by rw [v1]; exact h⟩
def CornP (w0 : World) (b bb rows cols : Nat) (v : Bool) (s : PS) (e : Ending) (w' : World) : Prop := e = .returned (.bool v) ∧ PIS w0 w' b bb rows cols s
theorem corner_visit {w0 w : World} {b bb rows cols : Nat} {s s' : PS} (hP : PIS w0 w b bb rows cols s) {ro co : Int} (ho : okRC ro co) (hp : cornerG rows cols ro co s = some s') (hl : s.evs.length ≤ 4000) :
    Calls Tryz.prog 49 #[.pointer (some ⟨b, 0, none⟩), .int .i64 ro, .int .i64 co, .int .i64 (s.evs.length : Nat)] w (CornP w0 b bb rows cols (decide (cornerOf rows cols ro co ≠ 0)) s') := by
  obtain ⟨o1, o2, o3, o4⟩ := ho
  by_cases hc : cornerOf rows cols ro co = 0
  · have e1 : s = s' := by unfold cornerG at hp; rw [if_pos hc] at hp; exact Option.some.inj hp
    subst e1
    refine (cornersS_calls hP.2 ro co s.evs.length (by omega) (by omega) (fun h => absurd hc h) hl).mono ?_
    rintro e w' ⟨rfl, h⟩
    rw [if_pos hc] at h
    exact ⟨rfl, hP.1, h⟩
  · have e1 : putEv rows cols (cornerOf rows cols ro co, 0, 0) s = some s' := by unfold cornerG at hp; rw [if_neg hc] at hp; exact hp
    obtain ⟨v1, v2, v3⟩ := putEv_okS e1 hP.1
    refine (cornersS_calls hP.2 ro co s.evs.length (by omega) (by omega) (fun _ => v2) hl).mono ?_
    rintro e w' ⟨rfl, h⟩
    rw [if_neg hc] at h
    exact ⟨rfl, v3, by rw [v1]; exact h⟩
theorem corner_len {rows cols : Nat} {s s' : PS} {ro co : Int} (hp : cornerG rows cols ro co s = some s') : (cornerOf rows cols ro co = 0 → s' = s) ∧ (cornerOf rows cols ro co ≠ 0 → s'.evs.length = s.evs.length + 1) := by
  constructor
  · intro hc; unfold cornerG at hp; rw [if_pos hc] at hp; exact (Option.some.inj hp).symm
  · intro hc; unfold cornerG at hp; rw [if_neg hc] at hp; rw [putEv_evs hp]; rfl

def PlacedPost (rows cols : Nat) (f : PS) (w : World) (e : Ending) (w' : World) : Prop :=
  ∃ bb, e = .returned (.tuple #[.slice (some ⟨bb, 0, none⟩) (rows * cols) (rows * cols), .int .i64 rows, .int .i64 cols]) ∧ Row w' bb .i64 3 (finishS rows cols (foldS rows cols f.evs)) ∧ OccI (foldS rows cols f.evs) f.occ ∧ Below w.heap.size w w' ∧ w.heap.size ≤ bb

set_option maxRecDepth 100000 in
set_option maxHeartbeats 16000000 in
theorem placed_calls {j rows cols : Nat} (hj : j < 29) (w : World) (hrows : inR0 j = rows) (hcols : inC0 j = cols) (f : PS) (hf : placeS rows cols = some f) (hfl : f.evs.length ≤ 4000) :
    Calls Tryz.prog 22 #[syV j] w (PlacedPost rows cols f w) := by
  obtain ⟨hx, _⟩ := in_ok j hj
  obtain ⟨r0, r1, c0, c1, _, hmul⟩ := sizes_bd _ hx
  have hin : ∀ w, Calls Tryz.prog 48 #[syV j] w fun e w' => e = .returned (.tuple #[.int .i64 rows, .int .i64 cols]) ∧ Below w.heap.size w w' := fun w => by
    rw [← hrows, ← hcols]; exact inner_calls hj w
  rw [hrows, hcols] at *
  simp only at r0 r1 c0 c1 hmul
  obtain ⟨n, hn⟩ : ∃ n, n = rows * cols := ⟨_, rfl⟩
  rw [← hn] at hmul
  have hb2 : (rows : Int) * (cols : Int) = (n : Int) := by rw [hn]; simp
  have hm := make28 (n : Int) (by omega) (by omega)
  rw [Int.toNat_natCast] at hm
  have HN := Lib.hid hn
  have HF := Lib.hid hf
  have HIN := Lib.hid hin
  clear hn hf hrows hcols hx hin
  unfold syV at HIN ⊢
  go_enter Tryz.func22, Tryz.ntmps22
  go_wp2_with (go_at_call 48; refine (HIN.out _).mono ?_; rintro e w1 ⟨rfl, hb⟩; have HB := Lib.hid hb; clear hb)
  have HBW := Lib.hid (((Below.refl w.heap.size w).alloc (Nat.le_refl _) _).trans (HB.out.mono (by simp)))
  clear HB
  go_loopw [28] (fun i wr => ∃ k : Nat, k ≤ n ∧ i = .int .i64 k ∧ Hid (wr.heap[w1.heap.size + 1]? = some (.cells #[.int .i64 rows, .int .i64 cols, .slice (some ⟨w1.heap.size, 0, none⟩) n n] 84)) ∧ Hid (Row wr w1.heap.size .i64 3 (upTo n k)) ∧ Hid (Below w1.heap.size w1 wr)) (fun i _ => n - (intOf i).toNat)
  case atStart =>
    refine ⟨0, by omega, rfl, new_last (by simp) _, ?_, ((Below.refl _ _).alloc (Nat.le_refl _) _).alloc (by simp) _⟩
    rw [upTo_zero]
    exact (Row.new _ _ _ _).alloc _
  case round =>
    obtain ⟨k, hk, rfl, h1, h2, h3⟩ := hrel
    have k3 : wr.cell? ⟨w1.heap.size + 1, 2, none⟩ = some (.slice (some ⟨w1.heap.size, 0, none⟩) n n) := by rw [cell_blk h1.out]; rfl
    by_cases hlt : k < n
    · have f2 := h2.out.free k
      have cx := h2.out.cell (i := k) (by rw [upTo_len hk]; exact hlt)
      have S := h2.out.set k (-1)
      rw [upTo_set hlt] at S
      have SS := Lib.hid S
      clear S
      have S1 := Lib.hid (show (wr.setCell ⟨w1.heap.size, k, none⟩ (.int .i64 (-1))).heap[w1.heap.size + 1]? = some (.cells #[.int .i64 rows, .int .i64 cols, .slice (some ⟨w1.heap.size, 0, none⟩) n n] 84) by rw [Below.heap_setCell _ _ _ _ (by simp)]; exact h1.out)
      have S2 := Lib.hid (h3.out.setCell (p := ⟨w1.heap.size, k, none⟩) (Nat.le_refl _) (.int .i64 (-1)))
      go_wp2
      exact ⟨⟨k + 1, by omega, by go_num, S1, SS, S2⟩, by simp [intOf]; omega⟩
    · obtain rfl : n = k := by omega
      clear k3
      have hS : SMem w1 wr (w1.heap.size + 1) w1.heap.size rows cols (foldS rows cols []) := by
        have hlen : (foldS rows cols []).length = n := by rw [foldS, List.length_replicate, HN.out]
        have hfe : foldS rows cols [] = upTo n n := by rw [upTo_full, foldS, HN.out]
        refine ⟨?_, ?_, h3.out, Nat.le_refl _, by omega, by omega, ?_, r0, by omega, c0, by omega⟩
        · rw [hlen]; exact h1.out
        · rw [hfe]; exact h2.out
        · rw [hlen, HN.out]
      have hP : PIS w1 wr (w1.heap.size + 1) w1.heap.size rows cols ⟨0, []⟩ := ⟨OccI.initS rows cols, hS⟩
      obtain ⟨wo, rfl⟩ : ∃ wo : World, wo = wr := ⟨_, rfl⟩
      clear h1 h2 h3 hS hlt hk
      go_wp2
      go_loopg [7, 8, 9] 100 (fun k r c p wx => ∃ (s : PS) (row col : Int), p = .int .i64 (s.evs.length : Nat) ∧ r = .int .i64 row ∧ c = .int .i64 col ∧ Hid (outS rows cols k row col s = some f) ∧ PIS w1 wx (w1.heap.size + 1) w1.heap.size rows cols s)
      case atStart => exact ⟨⟨0, []⟩, 4, 0, rfl, rfl, rfl, HF, hP⟩
      case round =>
        obtain ⟨s, row, col, rfl, rfl, rfl, HO, hP⟩ := hrel
        rcases gk with _ | k
        · have := HO.out; simp [outS] at this
        · obtain ⟨hok, h5⟩ := outS_step HO.out
          have hgr := outS_grow _ _ _ _ _ HO.out
          obtain ⟨o1, o2, o3, o4⟩ := id hok
          rcases h5 with ⟨hnc, rfl⟩ | ⟨hcn, s1, x, y, g1, g2, g3, g4⟩
          · have hS := hP.2
            have hocc := hP.1
            have x1 : ¬ row < (rows : Int) := fun h => hnc (.inl h)
            have x2 : ¬ col < (cols : Int) := fun h => hnc (.inr h)
            obtain ⟨bits, hbits⟩ : ∃ bits, bits = foldS rows cols s.evs := ⟨_, rfl⟩
            rw [← hbits] at hS
            have hlen : bits.length = n := by rw [hS.len, HN.out]
            have hcn : 6 * cols ≤ n := by rw [HN.out]; exact Nat.mul_le_mul_right _ r0
            have K2 : ∀ m, (wr.drewN m).cell? ⟨w1.heap.size + 1, 2, none⟩ = some (.slice (some ⟨w1.heap.size, 0, none⟩) n n) := fun m => by rw [(hS.drewN m).k2, hlen]
            obtain ⟨hn1, hn2, _, _⟩ := last_idx r0 c0
            rw [← HN.out] at hn1
            have HN1 := Lib.hid hn1
            have HBI := Lib.hid hbits
            have HLEN := Lib.hid hlen
            have HS := Lib.hid hS
            have HOC := Lib.hid hocc
            clear hnc hP hn1 hn2 hbits hS hocc HF HIN HO
            by_cases hd : bits.getD (n - 1) 0 < 0
            · obtain ⟨m1, hm1⟩ : ∃ m1 : Nat, m1 = n - 2 := ⟨_, rfl⟩
              obtain ⟨m2, hm2⟩ : ∃ m2 : Nat, m2 = n - cols - 1 := ⟨_, rfl⟩
              have i1 : IntKind.i64.wrap ((n : Int) - 2) = (m1 : Int) := by rw [IntWalk.i64_in _ (by omega)]; omega
              have i2 : IntKind.i64.wrap ((n : Int) - (cols : Int)) = (n : Int) - (cols : Int) := IntWalk.i64_in _ (by omega)
              have i3 : IntKind.i64.wrap ((n : Int) - (cols : Int) - 1) = (m2 : Int) := by rw [IntWalk.i64_in _ (by omega)]; omega
              have j1 : m1 < n := by omega
              have j2 : m2 < n := by omega
              have hne : m1 ≠ m2 := by omega
              have HD := Lib.hid (show decide (bits.getD (n - 1) 0 < 0) = true by simpa using hd)
              have HM1 := Lib.hid hm1
              have HM2 := Lib.hid hm2
              clear hd hm1 hm2
              go_wp2_with (go_at_call 50; (refine (free_calls HS.out _ _ (n - 1) (by omega) (by omega) (by omega) (by omega) HN1.out (by omega)).mono ?_; rintro e w' ⟨rfl, m, rfl⟩; rw [HD.out]))
              have HSd := HS.out.drewN m
              generalize wr.drewN m = wd at HSd K2 ⊢
              have kd : wd.cell? ⟨w1.heap.size + 1, 2, none⟩ = some (.slice (some ⟨w1.heap.size, 0, none⟩) n n) := by rw [HSd.k2, HLEN.out]
              have cx1 := HSd.row.cell (i := m1) (by omega)
              have cx2 := HSd.row.cell (i := m2) (by omega)
              have fx1 := HSd.row.free m1
              have fx2 := HSd.row.free m2
              have S1 := HSd.set m1 (-2)
              have S2 := HSd.set m2 (-2)
              have kd1 : (wd.setCell ⟨w1.heap.size, m1, none⟩ (.int .i64 (-2))).cell? ⟨w1.heap.size + 1, 2, none⟩ = some (.slice (some ⟨w1.heap.size, 0, none⟩) n n) := by rw [S1.k2, List.length_set, HLEN.out]
              have kd2 : (wd.setCell ⟨w1.heap.size, m2, none⟩ (.int .i64 (-2))).cell? ⟨w1.heap.size + 1, 2, none⟩ = some (.slice (some ⟨w1.heap.size, 0, none⟩) n n) := by rw [S2.k2, List.length_set, HLEN.out]
              have fy2 := S1.row.free m2
              have fy1 := S2.row.free m1
              have cy2 := S1.row.cell (i := m2) (by rw [List.length_set]; omega)
              have cy1 := S2.row.cell (i := m1) (by rw [List.length_set]; omega)
              have T1 := Lib.hid (S1.set m2 (-2))
              have HFS := Lib.hid (show finishS rows cols bits = (bits.set m1 (-2)).set m2 (-2) by unfold finishS; rw [← HN.out, if_pos (by simpa using HD.out), HM1.out, HM2.out])
              clear S1 S2 HSd K2
              go_region
              have kf : ((wd.setCell ⟨w1.heap.size, m1, none⟩ (.int .i64 (-2))).setCell ⟨w1.heap.size, m2, none⟩ (.int .i64 (-2))).cell? ⟨w1.heap.size + 1, 2, none⟩ = some (.slice (some ⟨w1.heap.size, 0, none⟩) n n) := by rw [T1.out.k2, List.length_set, List.length_set, HLEN.out]
              go_wp2
              refine bodyPost_ret (v := .tuple #[.slice (some ⟨w1.heap.size, 0, none⟩) n n, .int .i64 rows, .int .i64 cols]) (by simp [results, Tryz.results22, go_sem]) rfl ⟨w1.heap.size, by rw [HN.out], ?_, HOC.out, HBW.out.trans (T1.out.drew.below.mono HBW.out.size), HBW.out.size⟩
              rw [← HBI.out, HFS.out]
              exact T1.out.drew.row
            · have HD := Lib.hid (show decide (bits.getD (n - 1) 0 < 0) = false by simpa using hd)
              have HFS := Lib.hid (show finishS rows cols bits = bits by unfold finishS; rw [← HN.out, if_neg hd])
              clear hd
              go_wp2_with (go_at_call 50; (refine (free_calls HS.out _ _ (n - 1) (by omega) (by omega) (by omega) (by omega) HN1.out (by omega)).mono ?_; rintro e w' ⟨rfl, m, rfl⟩; rw [HD.out]))
              refine bodyPost_ret (v := .tuple #[.slice (some ⟨w1.heap.size, 0, none⟩) n n, .int .i64 rows, .int .i64 cols]) (by simp [results, Tryz.results22, go_sem]) rfl ⟨w1.heap.size, by rw [HN.out], ?_, HOC.out, HBW.out.trans ((HS.out.drewN m).below.mono HBW.out.size), HBW.out.size⟩
              rw [← HBI.out, HFS.out]
              exact (HS.out.drewN m).row
          · have G1 := Lib.hid g1
            have G2 := Lib.hid g2
            have G3 := Lib.hid g3
            have G4 := Lib.hid g4
            have HOK := Lib.hid hok
            clear g1 g2 g3 g4 hok HF HIN
            apply wp_seq_k
            intro K0 hK0
            go_cut [45] (fun c wx => c = .bool true ∧ wx = wr)
            case first => as_aux_lemma =>
              by_cases h1 : row < (rows : Int)
              · go_wp2
                go_meet
                case rel => exact ⟨rfl, rfl⟩
              · have h2 : col < (cols : Int) := by omega
                go_wp2
                go_meet
                case rel => exact ⟨rfl, rfl⟩
            case rest =>
              obtain ⟨rfl, rfl⟩ := hcut
              refine hK0 _ _ ?_
              clear hK0
              refine wp_block ?_
              apply wp_seq_k
              intro K1 hK1
              have hsl : s.evs.length ≤ 4000 := by omega
              have hx1 := (upS_ok _ _ _ _ _ G2.out)
              have hx2 := (downS_ok _ _ _ _ _ G3.out)
              have hx3 := outS_grow _ _ _ _ _ G4.out
              have hfx : x.2.2.evs.length ≤ 4000 := by omega
              have hfy : y.2.2.evs.length ≤ 4000 := by omega
              go_cut [9] (fun p wx => p = .int .i64 (s1.evs.length : Nat) ∧ PIS w1 wx (w1.heap.size + 1) w1.heap.size rows cols s1)
              case first => as_aux_lemma =>
                obtain ⟨hl0, hl1⟩ := corner_len G1.out
                have hcv := corner_visit hP HOK.out G1.out hsl
                by_cases hc : cornerOf rows cols row col = 0
                · rw [decide_eq_false (by simpa using hc)] at hcv
                  have HCV := Lib.hid hcv
                  have e1 := hl0 hc
                  subst e1
                  clear hl0 hl1 hc hcv
                  go_wp2_with (go_at_call 49; refine (HCV.out).mono ?_; rintro e w' ⟨rfl, hp⟩)
                  go_meet
                  case rel => exact ⟨rfl, hp⟩
                · rw [decide_eq_true (by simpa using hc)] at hcv
                  have HCV := Lib.hid hcv
                  have HL := Lib.hid (hl1 hc)
                  clear hl0 hl1 hc hcv
                  go_wp2_with (go_at_call 49; refine (HCV.out).mono ?_; rintro e w' ⟨rfl, hp⟩)
                  go_meet
                  case rel => exact ⟨by rw [HL.out]; simp, hp⟩
              case rest =>
                obtain ⟨rfl, hP1⟩ := hcut
                refine hK1 _ _ ?_
                clear hK1 hP
                apply wp_seq_k
                intro K2 hK2
                go_cut [7, 8, 9] (fun r c p wx => p = .int .i64 (x.2.2.evs.length : Nat) ∧ r = .int .i64 x.1 ∧ c = .int .i64 x.2.1 ∧ PIS w1 wx (w1.heap.size + 1) w1.heap.size rows cols x.2.2)
                case first => as_aux_lemma =>
                  go_wp2
                  go_loopg [7, 8, 9] 200 (fun k r c p wx => ∃ (su : PS) (ro co : Int), p = .int .i64 (su.evs.length : Nat) ∧ r = .int .i64 ro ∧ c = .int .i64 co ∧ Hid (upS rows cols k ro co su = some x) ∧ PIS w1 wx (w1.heap.size + 1) w1.heap.size rows cols su)
                  case atStart => exact ⟨s1, _, _, rfl, rfl, rfl, G2, hP1⟩
                  case round =>
                    clear hP1 G2
                    obtain ⟨su, ro, co, rfl, rfl, rfl, HU, hQ⟩ := hrel
                    rcases gk with _ | gk
                    · have := HU.out; simp [upS] at this
                    · have hu := HU.out
                      rw [upS] at hu
                      have hx := (upS_ok _ _ _ _ _ HU.out).1
                      have hsl : su.evs.length ≤ 4000 := by omega
                      split at hu
                      · rename_i hrc
                        obtain ⟨m1, m2, m3, m4⟩ := hrc
                        split at hu
                        · rename_i hin
                          obtain ⟨b1, b2⟩ := hin
                          obtain ⟨s2, u1, u2⟩ := Option.bind_eq_some_iff.1 hu
                          have U2 := Lib.hid u2
                          clear hu u2 HU
                          unfold upV at u1
                          rw [if_pos ⟨m1, m2, m3, m4⟩] at u1
                          by_cases hA : ro < (rows : Int)
                          · by_cases hB : 0 ≤ co
                            · rw [if_pos ⟨hA, hB⟩] at u1
                              unfold visit at u1
                              rw [if_pos ⟨by omega, by omega, by omega, by omega⟩] at u1
                              by_cases tb : su.occ.testBit (ro * (cols : Int) + co).toNat = true
                              · rw [if_pos tb] at u1
                                obtain rfl := Option.some.inj u1
                                have hfv := free_visit hQ (show 0 ≤ ro by omega) (show ro < rows by omega) (show 0 ≤ co by omega) (show co < cols by omega)
                                rw [tb] at hfv
                                have HFV := Lib.hid hfv
                                clear tb u1 hfv
                                go_wp2_with (go_at_call 50; refine (HFV.out).mono ?_; rintro e w' ⟨rfl, m, rfl⟩)
                                go_roundg gk
                                case measure => omega
                                case rel => exact ⟨su, _, _, rfl, rfl, rfl, U2, hQ.drewN m⟩
                              · rw [if_neg tb] at u1
                                have hfv := free_visit hQ (show 0 ≤ ro by omega) (show ro < rows by omega) (show 0 ≤ co by omega) (show co < cols by omega)
                                rw [show su.occ.testBit (ro * (cols : Int) + co).toNat = false by simpa using tb] at hfv
                                have HFV := Lib.hid hfv
                                have U1 := Lib.hid u1
                                have hl2 : s2.evs.length = su.evs.length + 1 := by rw [putEv_evs u1]; rfl
                                have HL2 := Lib.hid hl2
                                clear tb u1 hfv hl2
                                go_wp2_with (first | (go_at_call 50; refine (HFV.out).mono ?_; rintro e w' ⟨rfl, m, rfl⟩) | (go_at_call 51; refine (utah_visit (hQ.drewN m) (by omega) (by omega) (by omega) (by omega) U1.out hsl).mono ?_; rintro e w' ⟨rfl, hp⟩))
                                go_roundg gk
                                case measure => omega
                                case rel => exact ⟨s2, _, _, by rw [HL2.out]; simp, rfl, rfl, U2, hp⟩
                            · rw [if_neg (fun h => hB h.2)] at u1
                              obtain rfl := Option.some.inj u1
                              clear u1
                              go_wp2
                              go_roundg gk
                              case measure => omega
                              case rel => exact ⟨su, _, _, rfl, rfl, rfl, U2, hQ⟩
                          · rw [if_neg (fun h => hA h.1)] at u1
                            obtain rfl := Option.some.inj u1
                            clear u1
                            go_wp2
                            go_roundg gk
                            case measure => omega
                            case rel => exact ⟨su, _, _, rfl, rfl, rfl, U2, hQ⟩
                        · rename_i hin
                          obtain rfl := Option.some.inj hu
                          clear hu HU hx
                          by_cases hA : 0 ≤ ro
                          · have hB : ¬ (co < (cols : Int)) := fun h => hin ⟨hA, h⟩
                            clear hin
                            go_wp2
                            go_meet
                            case rel => exact ⟨rfl, rfl, rfl, hQ⟩
                          · clear hin
                            go_wp2
                            go_meet
                            case rel => exact ⟨rfl, rfl, rfl, hQ⟩
                      · cases hu
                case rest =>
                  obtain ⟨rfl, rfl, rfl, hP2⟩ := hcut
                  refine hK2 _ _ ?_
                  clear hK2 hP1
                  obtain ⟨q1, q2, q3, q4⟩ := hx1.2
                  go_upto_block 6 with (fail)
                  go_cut [7, 8, 9] (fun r c p wx => p = .int .i64 (y.2.2.evs.length : Nat) ∧ r = .int .i64 y.1 ∧ c = .int .i64 y.2.1 ∧ PIS w1 wx (w1.heap.size + 1) w1.heap.size rows cols y.2.2)
                  case first => as_aux_lemma =>
                    go_wp2
                    go_loopg [7, 8, 9] 200 (fun k r c p wx => ∃ (su : PS) (ro co : Int), p = .int .i64 (su.evs.length : Nat) ∧ r = .int .i64 ro ∧ c = .int .i64 co ∧ Hid (downS rows cols k ro co su = some y) ∧ PIS w1 wx (w1.heap.size + 1) w1.heap.size rows cols su)
                    case atStart => exact ⟨x.2.2, _, _, rfl, rfl, rfl, G3, hP2⟩
                    case round =>
                      clear hP2 G3
                      obtain ⟨su, ro, co, rfl, rfl, rfl, HU, hQ⟩ := hrel
                      rcases gk with _ | gk
                      · have := HU.out; simp [downS] at this
                      · have hu := HU.out
                        rw [downS] at hu
                        have hx := (downS_ok _ _ _ _ _ HU.out).1
                        have hsl : su.evs.length ≤ 4000 := by omega
                        split at hu
                        · rename_i hrc
                          obtain ⟨m1, m2, m3, m4⟩ := hrc
                          split at hu
                          · rename_i hin
                            obtain ⟨b1, b2⟩ := hin
                            obtain ⟨s2, u1, u2⟩ := Option.bind_eq_some_iff.1 hu
                            have U2 := Lib.hid u2
                            clear hu u2 HU
                            unfold downV at u1
                            rw [if_pos ⟨m1, m2, m3, m4⟩] at u1
                            by_cases hA : 0 ≤ ro
                            · by_cases hB : co < (cols : Int)
                              · rw [if_pos ⟨hA, hB⟩] at u1
                                unfold visit at u1
                                rw [if_pos ⟨by omega, by omega, by omega, by omega⟩] at u1
                                by_cases tb : su.occ.testBit (ro * (cols : Int) + co).toNat = true
                                · rw [if_pos tb] at u1
                                  obtain rfl := Option.some.inj u1
                                  have hfv := free_visit hQ (show 0 ≤ ro by omega) (show ro < rows by omega) (show 0 ≤ co by omega) (show co < cols by omega)
                                  rw [tb] at hfv
                                  have HFV := Lib.hid hfv
                                  clear tb u1 hfv
                                  go_wp2_with (go_at_call 50; refine (HFV.out).mono ?_; rintro e w' ⟨rfl, m, rfl⟩)
                                  go_roundg gk
                                  case measure => omega
                                  case rel => exact ⟨su, _, _, rfl, rfl, rfl, U2, hQ.drewN m⟩
                                · rw [if_neg tb] at u1
                                  have hfv := free_visit hQ (show 0 ≤ ro by omega) (show ro < rows by omega) (show 0 ≤ co by omega) (show co < cols by omega)
                                  rw [show su.occ.testBit (ro * (cols : Int) + co).toNat = false by simpa using tb] at hfv
                                  have HFV := Lib.hid hfv
                                  have U1 := Lib.hid u1
                                  have hl2 : s2.evs.length = su.evs.length + 1 := by rw [putEv_evs u1]; rfl
                                  have HL2 := Lib.hid hl2
                                  clear tb u1 hfv hl2
                                  go_wp2_with (first | (go_at_call 50; refine (HFV.out).mono ?_; rintro e w' ⟨rfl, m, rfl⟩) | (go_at_call 51; refine (utah_visit (hQ.drewN m) (by omega) (by omega) (by omega) (by omega) U1.out hsl).mono ?_; rintro e w' ⟨rfl, hp⟩))
                                  go_roundg gk
                                  case measure => omega
                                  case rel => exact ⟨s2, _, _, by rw [HL2.out]; simp, rfl, rfl, U2, hp⟩
                              · rw [if_neg (fun h => hB h.2)] at u1
                                obtain rfl := Option.some.inj u1
                                clear u1
                                go_wp2
                                go_roundg gk
                                case measure => omega
                                case rel => exact ⟨su, _, _, rfl, rfl, rfl, U2, hQ⟩
                            · rw [if_neg (fun h => hA h.1)] at u1
                              obtain rfl := Option.some.inj u1
                              clear u1
                              go_wp2
                              go_roundg gk
                              case measure => omega
                              case rel => exact ⟨su, _, _, rfl, rfl, rfl, U2, hQ⟩
                          · rename_i hin
                            obtain rfl := Option.some.inj hu
                            clear hu HU hx
                            by_cases hA : ro < (rows : Int)
                            · have hB : ¬ (0 ≤ co) := fun h => hin ⟨hA, h⟩
                              clear hin
                              go_wp2
                              go_meet
                              case rel => exact ⟨rfl, rfl, rfl, hQ⟩
                            · clear hin
                              go_wp2
                              go_meet
                              case rel => exact ⟨rfl, rfl, rfl, hQ⟩
                        · cases hu
                  case rest =>
                    obtain ⟨rfl, rfl, rfl, hP3⟩ := hcut
                    obtain ⟨j1, j2, j3, j4⟩ := hx2.2
                    go_wp2
                    go_roundg k
                    case measure => omega
                    case rel => exact ⟨y.2.2, _, _, rfl, rfl, rfl, G4, hP3⟩
end Go.Proofs.YtcnallabiffemaaGreatDoor

/- impl.Place: the package's placement as a row of bits. -/
set_option linter.unusedVariables false
set_option linter.unusedSimpArgs false
namespace Go.Proofs.YtcnallabiffemaaGreatDoor
open Go.RowKit

/-- the modules row by row -/
def pixL (B : List Int) (k : Nat) : List Nat := (List.range k).map fun i => pixN (B.getD i 0)
theorem pixL_len (B : List Int) (k : Nat) : (pixL B k).length = k := by simp [pixL]
theorem pixL_succ (B : List Int) (k : Nat) : pixL B (k + 1) = pixL B k ++ [pixN (B.getD k 0)] := by simp [pixL, List.range_succ]
def noHeap (w : World) : World := { w with heap := #[] }
theorem noHeap_below {B : Nat} {w w' : World} (h : Below B w w') : Below (noHeap w).heap.size (noHeap w) w' := ⟨h.os, h.tape, h.output, by simp [noHeap], fun k hk => by simp [noHeap] at hk⟩
theorem PMem.move {w0 wa w w' : World} {b bb cb cap rows cols : Nat} {cw : List Nat} {bits : List Int} (h : PMem w0 w b bb cb cap rows cols cw bits) (hb : ∀ x, x = b ∨ x = bb ∨ x = cb → w'.heap[x]? = w.heap[x]?) (hz : w.heap.size ≤ w'.heap.size) (hbl : Below (noHeap wa).heap.size (noHeap wa) w') :
    PMem (noHeap wa) w' b bb cb cap rows cols cw bits :=
  ⟨(hb b (.inl rfl)).trans h.blk, (hb bb (.inr (.inl rfl))).trans h.row, ⟨Nat.lt_of_lt_of_le h.byt.1 hz, fun i hi => (World.cell?_of_block (w := w) (a := ⟨cb, i, none⟩) (hb cb (.inr (.inr rfl)))).trans (h.byt.2 i hi)⟩, hbl, by simp [noHeap], h.n1, h.n2, h.len, h.r0, h.r1, h.c0, h.c1⟩

/-- the bits so far, in the captured result; the placement beside them -/
structure PlS (po base : Nat) (wq : World) (b bb cb cap rows cols : Nat) (cw : List Nat) (B : List Int) (wr : World) (v : Value) (xs : List Nat) : Prop where
  own : Own wr base .u8 5 v xs
  capt : wr.heap[po]? = some (.cells #[v] 49)
  but : But po wq wr
  mem : PMem (noHeap wq) wr b bb cb cap rows cols cw B
  p0 : po < wq.heap.size
  p1 : wq.heap.size ≤ base
  p2 : base ≤ wr.heap.size
  q0 : b < base
  q1 : bb < base
  q2 : cb < base
  d0 : b ≠ po
  d1 : bb ≠ po
  d2 : cb ≠ po
theorem pl_step {po base m d : Nat} {wq wr w' : World} {b bb cb cap rows cols : Nat} {cw : List Nat} {B : List Int} {v v' : Value} {xs : List Nat} {o : Obj} (h : PlS po base wq b bb cb cap rows cols cw B wr v xs)
    (hg : ((wr.drewN m).alloc o).grownBy w' v.ownBlock) (ho : Own w' base .u8 5 v' (xs ++ [d])) :
    w'.heap[po]? = some (.cells #[v] 49) ∧ PlS po base wq b bb cb cap rows cols cw B (w'.setCell ⟨po, 0, none⟩ v') v' (xs ++ [d]) := by
  have hlt := fun g e => (h.own.lt g e).1
  have hp0 := h.p0
  have hp1 := h.p1
  have hp2 := h.p2
  have hk : ∀ x, x < base → w'.heap[x]? = wr.heap[x]? := fun x hx => by
    rw [hg.block x (by simp [World.drewN]; omega) (fun e => by have := hlt x e.symm; omega), Below.heap_alloc _ _ _ (by simp [World.drewN]; omega)]; rfl
  have hpo := (hk po (by omega)).trans h.capt
  have hz : wr.heap.size ≤ w'.heap.size := by have := hg.size; simp [World.drewN] at this; omega
  have hbut : But po wq (w'.setCell ⟨po, 0, none⟩ v') := by
    refine ⟨?_, fun x h1 h2 => ?_⟩
    · exact (((below_dr h.but.below m).alloc (by simp [World.drewN]; omega) o).grown hg (by simp [World.drewN]; omega) (fun g e => by have := hlt g e; omega)).setCell (Nat.le_refl _) v'
    · rw [Below.heap_setCell _ _ _ _ h2, hk x (by omega)]; exact h.but.rest x h1 h2
  refine ⟨hpo, ?_, by rw [heap_setCell_at hpo]; rfl, hbut, ?_, hp0, hp1, by simp [World.setCell]; omega, h.q0, h.q1, h.q2, h.d0, h.d1, h.d2⟩
  · exact ho.set_ne (fun e => by have := (ho.lt _ e).1; simp only at this; omega) v'
  · refine h.mem.move (fun x hx => ?_) (by simp [World.setCell]; omega) (noHeap_below hbut.below)
    have hxb : x < base ∧ x ≠ po := by
      have := h.q0; have := h.q1; have := h.q2; have := h.d0; have := h.d1; have := h.d2
      rcases hx with rfl | rfl | rfl <;> constructor <;> assumption
    rw [Below.heap_setCell _ _ _ _ hxb.2]; exact hk x hxb.1

def PlR (po base : Nat) (xs : List Nat) (wq : World) (b : Bool) (w' : World) : Prop :=
  b = true ∧ ∃ g cap, Bytes w' g xs ∧ base ≤ g ∧ w'.heap[po]? = some (.cells #[.slice (some ⟨g, 0, none⟩) xs.length cap] 49) ∧ But po wq w'
def PlIn (po base : Nat) (xs : List Nat) (wq : World) (e : Ending) (w' : World) : Prop := ∃ b, e = .returned (.bool b) ∧ PlR po base xs wq b w'
theorem PlIn.of {po base : Nat} {wq wr : World} {b bb cb cap rows cols : Nat} {cw : List Nat} {B : List Int} {v : Value} {xs : List Nat} (h : PlS po base wq b bb cb cap rows cols cw B wr v xs) (hx : xs ≠ []) : PlIn po wq.heap.size xs wq (.returned (.bool true)) wr := by
  rcases h.own.look with ⟨_, h2⟩ | ⟨g, c, rest, hv, hg, _⟩
  · exact absurd h2 hx
  · have ho := h.own
    have hc := h.capt
    rw [hv] at ho hc
    exact ⟨true, rfl, rfl, g, c, ho.bytes, Nat.le_trans h.p1 hg, hc, h.but⟩

set_option maxRecDepth 100000 in
set_option maxHeartbeats 4000000 in
theorem plClo_calls {wq : World} {pb pc pr po cb cap rows cols : Nat} {cw : List Nat} {g : PS} (hpb : wq.cell? ⟨pb, 0, none⟩ = some (.slice (some ⟨cb, 0, none⟩) cw.length cap)) (hpc : wq.cell? ⟨pc, 0, none⟩ = some (.int .i64 cols)) (hpr : wq.cell? ⟨pr, 0, none⟩ = some (.int .i64 rows))
    (hpo : wq.heap[po]? = some (.cells #[.slice none 0 0] 49)) (hs : Small cw) (hcw : Bytes wq cb cw) (hcp : cb ≠ po) (d0 : pc ≠ po) (d1 : pr ≠ po) (r0 : 6 ≤ rows) (r1 : rows ≤ 120) (c0 : 6 ≤ cols) (c1 : cols ≤ 120) (hg : placeG rows cols = some g) (hf : g.evs.length ≤ cw.length) (hcl : cw.length ≤ 4000) :
    Calls Tryz.prog 53 #[.pointer (some ⟨pb, 0, none⟩), .pointer (some ⟨pc, 0, none⟩), .pointer (some ⟨pr, 0, none⟩), .pointer (some ⟨po, 0, none⟩)] wq
      (PlIn po wq.heap.size (pixL (finishB rows cols (foldE rows cols cw g.evs)) (rows * cols)) wq) := by
  have hpl := lt_of_blk hpo
  have hcl2 := lt_of_cell hpc
  have hrl := lt_of_cell hpr
  have HPO := Lib.hid hpo
  have HCW := Lib.hid hcw
  have HS := Lib.hid hs
  have HG := Lib.hid hg
  clear hpo hcw hs hg
  go_enter Tryz.func53, Tryz.ntmps53
  go_wp2_with (first | (go_at_call 54; (refine (newP_calls HCW.out r0 (by omega) c0 (by omega)).mono ?_; rintro e w1 ⟨rfl, hp, hz⟩; have HP := Lib.hid hp; clear hp)) | (go_at_call 55; (refine (place_calls HP.out HS.out g HG.out hf hcl).mono ?_; rintro e w2 ⟨rfl, hp2⟩; have hq2 := hp2.below; have hpr2 := (hq2.cell (p := ⟨pr, 0, none⟩) hrl).trans hpr; have hb2 := lt_of_blk hp2.blk; have HP2 := Lib.hid hp2; clear hp2 hq2)))
  obtain ⟨B, hB⟩ : ∃ B, B = finishB rows cols (foldE rows cols cw g.evs) := ⟨_, rfl⟩
  rw [← hB] at HP2 ⊢
  have hS0 : PlS po w2.heap.size wq (wq.heap.size + 1) wq.heap.size cb cap rows cols cw B w2 (.slice none 0 0) [] := by
    have hq2 := HP2.out.below
    have hzz := hq2.size
    refine ⟨Own.nil _ _ _ _, (hq2.block _ hpl).trans HPO.out, But.of hq2 hpl, HP2.out.move (fun _ _ => rfl) (Nat.le_refl _) (noHeap_below hq2), hpl, hzz, Nat.le_refl _, hb2, by omega, by have := HCW.out.1; omega, by omega, by omega, hcp⟩
  have HS0 := Lib.hid hS0
  have hmul : rows * cols ≤ 120 * 120 := Nat.mul_le_mul r1 c1
  have HB := Lib.hid hB
  clear hS0 hB HP2 HP HPO hpr2 hb2
  go_loopw [15] (fun i wr => ∃ k : Nat, k ≤ rows ∧ i = .int .i64 k ∧ ∃ v, Hid (PlS po w2.heap.size wq (wq.heap.size + 1) wq.heap.size cb cap rows cols cw B wr v (pixL B (k * cols)))) (fun i _ => rows - (intOf i).toNat)
  case atStart => exact ⟨0, by omega, rfl, _, by simpa [pixL] using HS0⟩
  case round =>
    obtain ⟨k, hk, rfl, v, hS⟩ := hrel
    by_cases hlt : k < rows
    · have kc : wr.cell? ⟨pc, 0, none⟩ = some (.int .i64 cols) := (World.cell?_of_block (w := wq) (a := ⟨pc, 0, none⟩) (hS.out.but.rest pc hcl2 d0)).trans hpc
      obtain ⟨wo, rfl⟩ : ∃ wo : World, wo = wr := ⟨_, rfl⟩
      go_wp2
      go_loopw [19] (fun i wi => ∃ j : Nat, j ≤ cols ∧ i = .int .i64 j ∧ ∃ v, Hid (PlS po w2.heap.size wq (wq.heap.size + 1) wq.heap.size cb cap rows cols cw B wi v (pixL B (k * cols + j)))) (fun i _ => cols - (intOf i).toNat)
      case atStart => exact ⟨0, by omega, rfl, v, hS⟩
      case round =>
        clear hS
        obtain ⟨j, hj, rfl, v, hS⟩ := hrel
        by_cases hjl : j < cols
        · obtain ⟨n, hn⟩ : ∃ n, n = k * cols + j := ⟨_, rfl⟩
          have hkc : (k + 1) * cols ≤ rows * cols := Nat.mul_le_mul_right _ hlt
          have hnl : n < rows * cols := by rw [Nat.add_mul] at hkc; omega
          have hni : (k : Int) * (cols : Int) + (j : Int) = (n : Int) := by rw [hn]; simp
          rw [← hn] at hS
          have HN := Lib.hid hn
          have g56 := getBit_calls hS.out.mem (j : Int) (k : Int) n (by omega) (by omega) (by omega) (by omega) hni (by rw [hS.out.mem.len]; exact hnl)
          have kp : ∀ m, (wr.drewN m).cell? ⟨po, 0, none⟩ = some v := fun m => (cell_blk hS.out.capt 0).trans rfl
          have hsn := (pixL_succ B n).symm
          unfold pixN at hsn
          clear hn hni hkc kc
          cases hbit : (B.getD n 0 == 1)
          · rw [hbit] at g56 hsn
            have HSN := Lib.hid (show pixL B n ++ [0] = pixL B (n + 1) from hsn)
            have G56 := Lib.hid g56
            clear hbit g56 hsn
            go_wp2_with (first | (go_at_call 56; (refine G56.out.mono ?_; rintro e w3 ⟨rfl, m, rfl⟩)) | ((refine app49 rfl (.tmp 29) (.tmp 30) rfl w2.heap.size _ (pixL B n) rfl ((hS.out.own.drewN m).alloc _) _ 1 1 [0] rfl rfl (Bytes.one rfl) (by rw [pixL_len]; simp; omega) (by have := hS.out.p2; simp [World.drewN]; omega) ?_; intro v' w' ho2 hg hne; obtain ⟨hq, hS2⟩ := pl_step hS.out hg ho2; have kq := (cell_blk hq 0).trans (rfl : _ = some v); have fq := frozen_blk hq 0; rw [HSN.out] at hS2; obtain ⟨g2, c2, hv2⟩ := ho2.slice (by simp); rw [HSN.out, pixL_len] at hv2; subst hv2; have HS2 := Lib.hid hS2; clear ho2 hg hne hS2 hq)))
            exact ⟨⟨j + 1, by omega, by go_num, _, by rw [show k * cols + (j + 1) = n + 1 by have := HN.out; omega]; exact HS2⟩, by simp [intOf]; omega⟩
          · rw [hbit] at g56 hsn
            have HSN := Lib.hid (show pixL B n ++ [1] = pixL B (n + 1) from hsn)
            have G56 := Lib.hid g56
            clear hbit g56 hsn
            go_wp2_with (first | (go_at_call 56; (refine G56.out.mono ?_; rintro e w3 ⟨rfl, m, rfl⟩)) | ((refine app49 rfl (.tmp 26) (.tmp 27) rfl w2.heap.size _ (pixL B n) rfl ((hS.out.own.drewN m).alloc _) _ 1 1 [1] rfl rfl (Bytes.one rfl) (by rw [pixL_len]; simp; omega) (by have := hS.out.p2; simp [World.drewN]; omega) ?_; intro v' w' ho2 hg hne; obtain ⟨hq, hS2⟩ := pl_step hS.out hg ho2; have kq := (cell_blk hq 0).trans (rfl : _ = some v); have fq := frozen_blk hq 0; rw [HSN.out] at hS2; obtain ⟨g2, c2, hv2⟩ := ho2.slice (by simp); rw [HSN.out, pixL_len] at hv2; subst hv2; have HS2 := Lib.hid hS2; clear ho2 hg hne hS2 hq)))
            exact ⟨⟨j + 1, by omega, by go_num, _, by rw [show k * cols + (j + 1) = n + 1 by have := HN.out; omega]; exact HS2⟩, by simp [intOf]; omega⟩
        · obtain rfl : cols = j := by omega
          go_wp2
          exact ⟨⟨k + 1, by omega, by go_num, v, by rw [Nat.add_mul, Nat.one_mul]; exact hS⟩, by simp [intOf]; omega⟩
    · obtain rfl : rows = k := by omega
      go_wp2
      go_ret
      rw [← HB.out]
      exact PlIn.of hS.out (by intro e; have := congrArg List.length e; rw [pixL_len] at this; have := Nat.mul_pos (show 0 < rows by omega) (show 0 < cols by omega); simp at *; omega)
end Go.Proofs.YtcnallabiffemaaGreatDoor

/- impl.Place. -/
set_option linter.unusedVariables false
set_option linter.unusedSimpArgs false
namespace Go.Proofs.YtcnallabiffemaaGreatDoor
open Go.RowKit

theorem enter53 (a b c d : Value) : ∀ w, (callFunc 53 #[a, b, c, d]).run Tryz.prog w = .ok (.enter 53 #[a, b, c, d]) w := fun _ => by kernel_rfl
def PlTry (po : Nat) (xs : List Nat) (w : World) (e : Ending) (w' : World) : Prop :=
  ∃ g cap, e = .returned (.bool true) ∧ Bytes w' g xs ∧ po < g ∧ w'.heap[po]? = some (.cells #[.slice (some ⟨g, 0, none⟩) xs.length cap] 49) ∧ Below w.heap.size w w'
theorem pl_try {w w3 : World} {pr pc pb po cb cap rows cols : Nat} {cw : List Nat} {g : PS} (hpr : w3.heap[pr]? = some (.cells #[.int .i64 rows] 3)) (hpc : w3.heap[pc]? = some (.cells #[.int .i64 cols] 3))
    (hpb : w3.heap[pb]? = some (.cells #[.slice (some ⟨cb, 0, none⟩) cw.length cap] 49)) (hpo : w3.heap[po]? = some (.cells #[.slice none 0 0] 49)) (hs : Small cw) (hcw : Bytes w3 cb cw) (hcp : cb ≠ po)
    (r0 : 6 ≤ rows) (r1 : rows ≤ 120) (c0 : 6 ≤ cols) (c1 : cols ≤ 120) (hg : placeG rows cols = some g) (hf : g.evs.length ≤ cw.length) (hcl : cw.length ≤ 4000)
    (hb : Below w.heap.size w w3) (hwp : w.heap.size ≤ po) :
    Calls Tryz.prog 28 #[.func (.func 53) #[] #[.pointer (some ⟨pb, 0, none⟩), .pointer (some ⟨pc, 0, none⟩), .pointer (some ⟨pr, 0, none⟩), .pointer (some ⟨po, 0, none⟩)]] w3 (PlTry po (pixL (finishB rows cols (foldE rows cols cw g.evs)) (rows * cols)) w) := by
  have lr := lt_of_blk hpr
  have lc := lt_of_blk hpc
  have lb := lt_of_blk hpb
  have lo := lt_of_blk hpo
  have d0 : pc ≠ po := fun e => by rw [e, hpo] at hpc; simp at hpc
  have d1 : pr ≠ po := fun e => by rw [e, hpo] at hpr; simp at hpr
  have k1 : (w3.alloc (.cells #[.bool false] 4)).heap[po]? = _ := (Below.heap_alloc _ _ _ lo).trans hpo
  generalize hxs : pixL (finishB rows cols (foldE rows cols cw g.evs)) (rows * cols) = xs
  refine (try_calls (R := fun b w' => PlR po (w3.heap.size + 1) xs (w3.alloc (.cells #[.bool false] 4)) b w') (enter53 _ _ _ _) ((plClo_calls (cw := cw) (cb := cb) (cap := cap) (g := g) (by rw [cell_blk ((Below.heap_alloc _ _ _ lb).trans hpb)]; rfl) (by rw [cell_blk ((Below.heap_alloc _ _ _ lc).trans hpc)]; rfl) (by rw [cell_blk ((Below.heap_alloc _ _ _ lr).trans hpr)]; rfl) k1 hs (hcw.alloc _) hcp d0 d1 r0 r1 c0 c1 hg hf hcl).mono ?_)).mono ?_
  · rintro e w' ⟨b, rfl, hr⟩
    rw [hxs] at hr
    have hr' : PlR po (w3.heap.size + 1) xs (w3.alloc (.cells #[.bool false] 4)) b w' := by simpa using hr
    refine ⟨b, rfl, ?_, hr'⟩
    obtain ⟨_, g, c, _, _, _, hbut⟩ := hr
    exact (hbut.rest _ (by simp) (by omega)).trans (new_last rfl _)
  · rintro e w'' ⟨b, w2, rfl, hr, rfl⟩
    obtain ⟨rfl, g, c, h1, h2, h3, hbut⟩ := hr
    refine ⟨g, c, rfl, h1.set_ne (by simp <;> omega) _, by omega, ?_, ?_⟩
    · rw [Below.heap_setCell _ _ _ _ (by simp <;> omega)]; exact h3
    · have hz := hb.size
      exact ((hb.alloc hz _).trans (hbut.below.mono hwp)).setCell (by simpa using hz) _

def PlPost (xs : List Nat) (w : World) (e : Ending) (w' : World) : Prop :=
  ∃ g cap, e = .returned (.tuple #[.slice (some ⟨g, 0, none⟩) xs.length cap, .bool true]) ∧ Bytes w' g xs ∧ Below w.heap.size w w'
set_option maxRecDepth 100000 in
set_option maxHeartbeats 2000000 in
theorem implPlace_calls {w : World} {db dcap rows cols : Nat} {data : List Nat} {f : PS} (hx : Ints w db data) (hs : Small data) (d1 : 1 ≤ data.length) (d2 : data.length ≤ 4000)
    (r0 : 6 ≤ rows) (r1 : rows ≤ 120) (c0 : 6 ≤ cols) (c1 : cols ≤ 120) (hg : placeG rows cols = some f) (hf : f.evs.length ≤ data.length) :
    Calls Tryz.prog 23 #[.slice (some ⟨db, 0, none⟩) data.length dcap, .int .i64 rows, .int .i64 cols] w (PlPost (pixL (finishB rows cols (foldE rows cols data f.evs)) (rows * cols)) w) := by
  have hmf : ∀ (fn : Fn) (first cap : Array Value) (w : World), (Instr.makeFunc fn first cap).run Tryz.prog w = .ok (.func fn first cap) w := fun _ _ _ _ => rfl
  have hb0 : Below w.heap.size w (((w.alloc (.cells #[.int .i64 rows] 3)).alloc (.cells #[.int .i64 cols] 3)).alloc (.cells #[.slice none 0 0] 49)) := (((Below.refl _ _).alloc (Nat.le_refl _) _).alloc (by simp) _).alloc (by simp <;> omega) _
  have c1' : (((w.alloc (.cells #[.int .i64 rows] 3)).alloc (.cells #[.int .i64 cols] 3)).alloc (.cells #[.slice none 0 0] 49)).heap[w.heap.size]? = some (.cells #[.int .i64 rows] 3) := (Below.heap_alloc _ _ _ (by simp <;> omega)).trans ((Below.heap_alloc _ _ _ (by simp)).trans (new_last rfl _))
  have c2' : (((w.alloc (.cells #[.int .i64 rows] 3)).alloc (.cells #[.int .i64 cols] 3)).alloc (.cells #[.slice none 0 0] 49)).heap[w.heap.size + 1]? = some (.cells #[.int .i64 cols] 3) := (Below.heap_alloc _ _ _ (by simp)).trans (new_last (by simp) _)
  have c3' : (((w.alloc (.cells #[.int .i64 rows] 3)).alloc (.cells #[.int .i64 cols] 3)).alloc (.cells #[.slice none 0 0] 49)).heap[w.heap.size + 1 + 1]? = some (.cells #[.slice none 0 0] 49) := new_last (by simp) _
  have B0 := Lib.hid hb0
  have C1 := Lib.hid c1'
  have C2 := Lib.hid c2'
  have C3 := Lib.hid c3'
  have HX := Lib.hid hx
  have HS := Lib.hid hs
  have HG := Lib.hid hg
  obtain ⟨xs, hxs⟩ : ∃ xs, xs = pixL (finishB rows cols (foldE rows cols data f.evs)) (rows * cols) := ⟨_, rfl⟩
  rw [← hxs]
  have HXS := Lib.hid hxs
  clear hb0 c1' c2' c3' hx hs hg hxs
  go_enter Tryz.func23, Tryz.ntmps23
  go_wp2_with (first | (go_at_call 52; (refine (octets_calls (((HX.out.alloc _).alloc _).alloc _) HS.out d1 d2).mono ?_; rintro e w1 ⟨g1, cap1, rfl, hg1, ho1, hb⟩; have hz := hb.size; simp only [alloc_heap, Array.size_push] at hz; have D0 := Lib.hid (new_last (w := w1) rfl (.cells #[.slice (some ⟨g1, 0, none⟩) data.length cap1] 49)); have dd1 := ((Below.heap_alloc w1 (.cells #[.slice (some ⟨g1, 0, none⟩) data.length cap1] 49) _ (by omega)).trans ((hb.block _ (by simp <;> omega)).trans C1.out)); have dd2 := ((Below.heap_alloc w1 (.cells #[.slice (some ⟨g1, 0, none⟩) data.length cap1] 49) _ (by omega)).trans ((hb.block _ (by simp <;> omega)).trans C2.out)); have kk1 := cell_blk dd1 0; have kk2 := cell_blk dd2 0; have D1 := Lib.hid dd1; have D2 := Lib.hid dd2; have D3 := Lib.hid ((Below.heap_alloc w1 (.cells #[.slice (some ⟨g1, 0, none⟩) data.length cap1] 49) _ (by omega)).trans ((hb.block _ (by simp)).trans C3.out)); have DB := Lib.hid ((B0.out.trans (hb.mono (by simp <;> omega))).alloc (by omega) (.cells #[.slice (some ⟨g1, 0, none⟩) data.length cap1] 49)); have DC := Lib.hid (ho1.alloc (.cells #[.slice (some ⟨g1, 0, none⟩) data.length cap1] 49)); have hgp : g1 ≠ w.heap.size + 1 + 1 := (by simp at hg1; omega); clear ho1 hb hg1 dd1 dd2)) | (go_at_call 28; (refine (pl_try (w := w) (pr := w.heap.size) (pc := w.heap.size + 1) (pb := w1.heap.size) (po := w.heap.size + 1 + 1) D1.out D2.out D0.out D3.out HS.out DC.out hgp r0 r1 c0 c1 HG.out hf d2 DB.out (by omega)).mono ?_; rw [← HXS.out]; rintro e w4 ⟨g, cap, rfl, hi, hpg, hpo, hb4⟩; have k : w4.cell? ⟨w.heap.size + 1 + 1, 0, none⟩ = some (.slice (some ⟨g, 0, none⟩) xs.length cap) := (cell_blk hpo 0).trans rfl; have f := frozen_blk hpo 0; have HPO := Lib.hid hpo; have HI := Lib.hid hi; have HB4 := Lib.hid hb4; clear hpo hi hb4)))
  have k2 : (w4.setCell ⟨w.heap.size + 1 + 1, 0, none⟩ (.slice (some ⟨g, 0, none⟩) xs.length cap)).cell? ⟨w.heap.size + 1 + 1, 0, none⟩ = some (.slice (some ⟨g, 0, none⟩) xs.length cap) := by rw [cell_blk (heap_setCell_at HPO.out 0 _)]; rfl
  refine bodyPost_ret (v := .tuple #[.slice (some ⟨g, 0, none⟩) xs.length cap, .bool true]) (by simp [results, Tryz.results23, go_sem, k2]) rfl ⟨g, cap, rfl, HI.out.set_ne (by simp <;> omega) _, HB4.out.setCell (by simp <;> omega) _⟩
end Go.Proofs.YtcnallabiffemaaGreatDoor

/- FnPlace: the walk. -/
set_option linter.unusedVariables false
set_option linter.unusedSimpArgs false
namespace Go.Proofs.YtcnallabiffemaaGreatDoor
open Go.RowKit

theorem fnPl_big (v : Option Addr) (len cap : Nat) (s : Int) (h : 2147483647 < len) (h2 : len ≤ 9223372036854775807) (w : World) : Calls Tryz.prog 6 #[.slice v len cap, .int .i64 s] w (TruePost w) := by
  have g1 : (2147483647 : Int) < (len : Int) := by omega
  go_enter Tryz.func6, Tryz.ntmps6
  go_wp2
  go_ret
  exact ⟨rfl, Below.refl _ _⟩

set_option maxHeartbeats 2000000 in
theorem fnPl_out (v : Option Addr) (len cap : Nat) (s : Int) (h : len = 0 ∨ 1000 < len) (h2 : len ≤ 2147483647) (w : World) : Calls Tryz.prog 6 #[.slice v len cap, .int .i64 s] w (TruePost w) := by
  have g1 : ¬ (2147483647 : Int) < (len : Int) := by omega
  by_cases h0 : len = 0
  · subst h0
    go_enter Tryz.func6, Tryz.ntmps6
    go_wp2_with (first | (go_at_call 20; refine (symAt_calls _ _).mono ?_; rintro e w1 ⟨rfl, hb⟩; have HB := Lib.hid hb; clear hb; unfold syV) | (go_at_call 9; refine (works_calls _).mono ?_; rintro e w5 ⟨rfl, hb5⟩; have HB5 := Lib.hid hb5; clear hb5))
    go_ret
    have z := HB.out.size
    exact ⟨rfl, (HB.out.alloc z _).trans (HB5.out.mono (by simp <;> omega))⟩
  · have g2 : ¬ (len : Int) = 0 := by omega
    have g3 : (1000 : Int) < (len : Int) := by omega
    go_enter Tryz.func6, Tryz.ntmps6
    go_wp2_with (first | (go_at_call 20; refine (symAt_calls _ _).mono ?_; rintro e w1 ⟨rfl, hb⟩; have HB := Lib.hid hb; clear hb; unfold syV) | (go_at_call 9; refine (works_calls _).mono ?_; rintro e w5 ⟨rfl, hb5⟩; have HB5 := Lib.hid hb5; clear hb5))
    go_ret
    have z := HB.out.size
    exact ⟨rfl, (HB.out.alloc z _).trans (HB5.out.mono (by simp <;> omega))⟩

theorem shr_law : ∀ c, c < 256 → ∀ k, k < 8 → ((((c : Nat) : Int) >>> k) % 2 != bits .and .i64 (((c : Nat) : Int) / 2 ^ k) 1 % 256) = false := by decide +kernel
theorem drew_ints2 {w1 w2 : World} {o : Obj} {xs : List Nat} (hr : Row w2 ((w1.alloc o).drew.heap.size + 1) .i64 3 (nl xs)) : Ints w2 (w1.heap.size + 1 + 1) xs := drew_ints (o := o) hr
theorem drew_lt2 {w1 : World} {o : Obj} : w1.heap.size < (w1.alloc o).drew.heap.size := by simp [World.drew]
theorem fin_low {rows cols N : Nat} {evs : List (Nat × Int × Int)} (h : evs.length ≤ N) {i : Nat} (hi : i < rows * cols) :
    (finishS rows cols (foldS rows cols evs)).getD i 0 = -1 ∨ (finishS rows cols (foldS rows cols evs)).getD i 0 = -2 ∨ (0 ≤ (finishS rows cols (foldS rows cols evs)).getD i 0 ∧ (finishS rows cols (foldS rows cols evs)).getD i 0 < 8 * (N : Int)) := by
  have hl := length_foldS rows cols evs
  have hlow := low_fold rows cols N evs h
  generalize foldS rows cols evs = S at *
  have h0 := hlow i (by omega)
  unfold finishS
  split
  · rw [getD_set (by simp; omega)]
    split
    · exact .inr (.inl rfl)
    · rw [getD_set (by omega)]
      split
      · exact .inr (.inl rfl)
      · rcases h0 with h0 | h0
        · exact .inl h0
        · exact .inr (.inr h0)
  · rcases h0 with h0 | h0
    · exact .inl h0
    · exact .inr (.inr h0)

set_option maxRecDepth 100000 in
set_option maxHeartbeats 8000000 in
theorem fnPl_in {zs : List Int} {sb so cap : Nat} (s : Int) {w : World} (hc : ∀ j, j < zs.length → w.cell? ⟨sb, so + j, none⟩ = some (.int .i64 (zs.getD j 0))) (h1 : 1 ≤ zs.length) (h2 : zs.length ≤ 1000) :
    Calls Tryz.prog 6 #[.slice (some ⟨sb, so, none⟩) zs.length cap, .int .i64 s] w (TruePost w) := by
  have hsb : sb < w.heap.size := lt_of_cell (hc 0 (by omega))
  obtain ⟨_, hi⟩ := symIx_ok s
  obtain ⟨L, hL⟩ : ∃ L, L = zs.length := ⟨_, rfl⟩
  have g1 : ¬ (2147483647 : Int) < (L : Int) := by omega
  have g2 : ¬ (L : Int) = 0 := by omega
  have g3 : ¬ (1000 : Int) < (L : Int) := by omega
  have g4 : ((L : Int) == 0) = false := by rw [beq_eq_false_iff_ne]; exact g2
  have A := symAt_calls s w
  have D : ∀ (w : World), (∀ j, j < zs.length → w.cell? ⟨sb, so + j, none⟩ = some (.int .i64 (zs.getD j 0))) → sb < w.heap.size → Calls Tryz.prog 21 #[syV (symIx s), .slice (some ⟨sb, so, none⟩) L cap] w (DrawnPost (drawnN zs (syN (symIx s) 4)) w) := fun _ hc hs => hL ▸ drawn_calls hc hs h1 h2 hi
  rw [← hL]
  have HC := Lib.hid hc
  have DD := Lib.hid D
  have HL := Lib.hid hL
  obtain ⟨j, hj⟩ : ∃ j, j = symIx s := ⟨_, rfl⟩
  rw [← hj] at hi A DD
  obtain ⟨data, hdd⟩ : ∃ data, data = drawnN zs (syN j 4) := ⟨_, rfl⟩
  have hdl : data.length = syN j 4 := by rw [hdd]; simp
  have hds : Small data := by rw [hdd]; exact small_drawn _ _
  rw [← hdd] at DD
  have hcw := wordsN_len hdl
  have hsw := small_words hi hds
  obtain ⟨b1, b2, b3, b4, _⟩ := sy_bd j hi
  have hwl : (wordsN j data).length ≤ 4000 := by omega
  have hw1 : 1 ≤ (wordsN j data).length := by omega
  obtain ⟨rows, hrows⟩ : ∃ rows, rows = inR0 j := ⟨_, rfl⟩
  obtain ⟨cols, hcols⟩ : ∃ cols, cols = inC0 j := ⟨_, rfl⟩
  obtain ⟨hx, _⟩ := in_ok j hi
  rw [← hrows, ← hcols] at hx
  obtain ⟨r0, r1, c0, c1, _, hmul⟩ := sizes_bd _ hx
  obtain ⟨f, g, hf, hg, hev, hgl, hocc⟩ := placeS_ok hx
  simp only at r0 r1 c0 c1 hmul
  have hgw : g.evs.length ≤ (wordsN j data).length := by omega
  have hfl : f.evs.length ≤ 4000 := by rw [hev]; omega
  have PL := fun w => placed_calls hi w hrows.symm hcols.symm f hf hfl
  have IP := fun (w : World) (db dcap : Nat) (hx : Ints w db (wordsN j data)) => implPlace_calls (dcap := dcap) hx hsw hw1 hwl r0 r1 c0 c1 hg hgw
  have law : ∀ occ, OccI (foldS rows cols f.evs) occ → (fullB rows cols occ = true ∨ holeB rows cols occ = true) → ∀ i, i < rows * cols → (pixL (finishB rows cols (foldE rows cols (wordsN j data) g.evs)) (rows * cols)).getD i 0 = wantN (wordsN j data) ((finishS rows cols (foldS rows cols f.evs)).getD i 0) := fun occ ho hh i hi => by
    rw [← place_law (wordsN j data) r0 c0 ho hh hi, hev]
    simp [pixL, List.getD_eq_getElem?_getD, List.getElem?_map, List.getElem?_range hi]
  have low : ∀ i, i < rows * cols → _ := fun i hi => fin_low (rows := rows) (cols := cols) (evs := f.evs) (N := (wordsN j data).length) (by rw [hev]; exact hgw) hi
  have hsl : (finishS rows cols (foldS rows cols f.evs)).length = rows * cols := by rw [length_finishS, length_foldS]
  have WC := fun (w : World) (db dcap : Nat) (hx : Ints w db data) => words_calls (dcap := dcap) hx hds hdl hi
  obtain ⟨n, hn⟩ : ∃ n, n = rows * cols := ⟨_, rfl⟩
  have PLH := Lib.hid PL
  have IPH := Lib.hid IP
  have LAW := Lib.hid (fun occ ho => law occ ho)
  have LOW := Lib.hid low
  have WCH := Lib.hid WC
  have HSL := Lib.hid hsl
  have HSW := Lib.hid hsw
  have HN := Lib.hid hn
  have HOCC := Lib.hid hocc
  clear hdl hds hcw hdd hj hL hc D b1 b2 b3 b4 hrows hcols hx hf hg hev hgl hocc PL IP law low hsl WC hn hsw hfl hgw
  go_enter Tryz.func6, Tryz.ntmps6
  go_upto_region 6 with (go_at_call 20; refine A.mono ?_; rintro e w1 ⟨rfl, hb⟩; have hz := hb.size; have HB := Lib.hid hb; have HC1 := Lib.hid (show ∀ i, i < zs.length → (w1.alloc (symC j)).cell? ⟨sb, so + i, none⟩ = some (.int .i64 (zs.getD i 0)) from fun i hi => ((hb.alloc hz _).cell (p := ⟨sb, so + i, none⟩) hsb).trans (HC.out i hi)); have HS1 := Lib.hid (show (w1.alloc (symC j)).heap[w1.heap.size]? = some (symC j) from new_last rfl _); have HB1 := Lib.hid (hb.alloc hz (symC j)); clear hb A HC; unfold syV)
  obtain ⟨l0, l1, l2, l3, l4, l5, l6⟩ := cells7 HS1.out
  have HCd := Lib.hid (show ∀ i, i < zs.length → (w1.alloc (symC j)).drew.cell? ⟨sb, so + i, none⟩ = some (.int .i64 (zs.getD i 0)) from fun i hi => HC1.out i hi)
  have HSd := Lib.hid (show (w1.alloc (symC j)).drew.heap[w1.heap.size]? = some (symC j) from HS1.out)
  have HBd := Lib.hid (below_dr HB1.out 1)
  have hsd : sb < (w1.alloc (symC j)).drew.heap.size := Nat.lt_of_lt_of_le hsb HB1.out.size
  go_cut [7] (fun v wx => ∃ g4 c4, v = .slice (some ⟨g4, 0, none⟩) (wordsN j data).length c4 ∧ Hid (Ints wx g4 (wordsN j data)) ∧ Hid (wx.heap[w1.heap.size]? = some (symC j)) ∧ Hid (Below w.heap.size w wx))
  case first => as_aux_lemma =>
    go_region_with (first
      | (go_at_call 21; (refine (DD.out _ HCd.out hsd).mono ?_; rintro e w2 ⟨rfl, hr, hb⟩; have HX2 := Lib.hid (drew_ints2 hr); have hs2 := (hb.block _ drew_lt2).trans HSd.out; obtain ⟨l0, l1, l2, l3, l4, l5, l6⟩ := cells7 hs2; have HB2 := Lib.hid (HBd.out.trans (hb.mono HBd.out.size)); have HS2 := Lib.hid hs2; clear hr hb hs2))
      | (go_at_call 16; (refine (WCH.out _ _ _ HX2.out).mono ?_; rintro e w3 ⟨g4, c4, rfl, hg4, hx4, hb4⟩; have HX4 := Lib.hid hx4; have HS4 := Lib.hid ((hb4.block _ (lt_of_blk HS2.out)).trans HS2.out); have HB4 := Lib.hid (HB2.out.trans (hb4.mono HB2.out.size)); clear hx4 hb4)))
    all_goals
      go_wp2
      go_meet
      case rel => exact ⟨g4, c4, rfl, HX4, HS4, HB4⟩
  case rest =>
    obtain ⟨g4, c4, rfl, HX4, HS4, HB4⟩ := hcut
    obtain ⟨l0, l1, l2, l3, l4, l5, l6⟩ := cells7 HS4.out
    obtain ⟨xs, hxs⟩ : ∃ xs, xs = pixL (finishB rows cols (foldE rows cols (wordsN j data) g.evs)) (rows * cols) := ⟨_, rfl⟩
    have hxl : xs.length = n := by rw [hxs, pixL_len, HN.out]
    have hql : ((n : Int) != (n : Int)) = false := by simp
    have PLW := PLH.out wc
    unfold syV at PLW
    have PLW := Lib.hid PLW
    clear HC1 HS1 HB1 HCd HSd HBd hsd DD HB WCH
    go_upto_region 11 with (first
      | (go_at_call 22; (refine PLW.out.mono ?_; rintro e w5 ⟨bb, rfl, hr5, ho5, hb5, hbb5⟩; have hx5 := HX4.out.below hb5 HX4.out.1; have IPW := Lib.hid (IPH.out w5 g4 c4 hx5); have HR5 := Lib.hid hr5; have HO5 := Lib.hid ho5; have HB5 := Lib.hid hb5; have HX5 := Lib.hid hx5; clear hr5 ho5 hb5 hx5; rw [← HN.out]))
      | (go_at_call 23; (refine IPW.out.mono ?_; rw [← hxs]; rintro e w6 ⟨g6, c6, rfl, hby, hb6⟩; rw [hxl]; have HBY := Lib.hid hby; have HB6 := Lib.hid hb6; clear hby hb6)))
    obtain ⟨S, hS⟩ : ∃ S, S = finishS rows cols (foldS rows cols f.evs) := ⟨_, rfl⟩
    have hlaw : ∀ i, i < n → xs.getD i 0 = wantN (wordsN j data) (S.getD i 0) := fun i hi => by
      rw [hxs, hS]; exact LAW.out _ HO5.out HOCC.out i (by rw [← HN.out]; exact hi)
    have hlow : ∀ i, i < n → S.getD i 0 = -1 ∨ S.getD i 0 = -2 ∨ (0 ≤ S.getD i 0 ∧ S.getD i 0 < 8 * ((wordsN j data).length : Int)) := fun i hi => by
      rw [hS]; exact LOW.out i (by rw [← HN.out]; exact hi)
    have hr6 : Row w6 bb .i64 3 S := by rw [hS]; exact HR5.out.below HB6.out HR5.out.lt
    have hx6 : Ints w6 g4 (wordsN j data) := HX5.out.below HB6.out HX5.out.1
    have hsl2 : S.length = n := by rw [hS, HSL.out, HN.out]
    have hn14 : n ≤ 14400 := by rw [HN.out]; exact hmul
    have HBF := Lib.hid (HB4.out.trans ((HB5.out.mono HB4.out.size).trans (HB6.out.mono (Nat.le_trans HB4.out.size HB5.out.size))))
    obtain ⟨ws, hws⟩ : ∃ ws, ws = wordsN j data := ⟨_, rfl⟩
    rw [← hws] at hlaw hlow hx6 hwl hw1 HSW
    have HLAW := Lib.hid hlaw
    have HLOW := Lib.hid hlow
    have HR6 := Lib.hid hr6
    have HX6 := Lib.hid hx6
    have HSL2 := Lib.hid hsl2
    have HXL := Lib.hid hxl
    have HWS := Lib.hid hws
    clear hlaw hlow hr6 hx6 hsl2 hS hxs HR5 HO5 HB5 HX5 HB6 LAW LOW HSL IPH PLH IPW PLW HOCC HB4 HS4 HX4 l0 l1 l2 l3 l4 l5 l6 hxl hql
    clear hws
    go_wp2
    go_loopw [66] (fun i wr => ∃ k : Nat, k ≤ n ∧ i = .int .i64 k ∧ wr = w6) (fun i _ => n - (intOf i).toNat)
    case atStart => exact ⟨0, by omega, rfl, rfl⟩
    case round =>
      obtain ⟨k, hk, rfl, rfl⟩ := hrel
      by_cases hlt : k < n
      · have cz := HR6.out.cell (i := k) (by rw [HSL2.out]; exact hlt)
        have cb := HBY.out.2 k (by rw [HXL.out]; exact hlt)
        rw [HLAW.out k hlt] at cb
        have hl3 := HLOW.out k hlt
        generalize S.getD k 0 = z at *
        rcases hl3 with rfl | rfl | ⟨z0, z1⟩
        · rw [show wantN ws (-1) = 1 from rfl] at cb
          go_wp2
          exact ⟨⟨k + 1, by omega, by go_num, trivial⟩, by simp [intOf]; omega⟩
        · rw [show wantN ws (-2) = 0 from rfl] at cb
          go_wp2
          exact ⟨⟨k + 1, by omega, by go_num, trivial⟩, by simp [intOf]; omega⟩
        · obtain ⟨zn, rfl⟩ := Int.eq_ofNat_of_zero_le z0
          have hwn : wantN ws ((zn : Nat) : Int) = (ws.getD (zn / 8) 0 >>> (7 - zn % 8)) &&& 1 := by unfold wantN; rw [if_pos (by omega), Int.toNat_natCast]
          obtain ⟨a, ha⟩ : ∃ a, a = zn / 8 := ⟨_, rfl⟩
          obtain ⟨r, hr⟩ : ∃ r, r = zn % 8 := ⟨_, rfl⟩
          rw [hwn, ← ha, ← hr] at cb
          have ca := HX6.out.2 a (by omega)
          have hc := HSW.out a
          have hr8 : r < 8 := by omega
          have ha4 : a ≤ 4000 := by omega
          have hal : a < (wordsN j data).length := by rw [← HWS.out]; omega
          have q1 : ((zn : Nat) : Int).tdiv 8 = (a : Int) := by rw [Int.tdiv_eq_ediv_of_nonneg (by omega)]; omega
          have q2 : ((zn : Nat) : Int).tmod 8 = (r : Int) := by rw [Int.tmod_eq_emod_of_nonneg (by omega)]; omega
          generalize ws.getD a 0 = c at *
          have q3 : (zn : Int) ≥ 0 := z0
          clear ha hr hwn z0
          go_wp2
          · rename_i hbad
            rw [shr_law c hc (7 - r) (by omega)] at hbad
            cases hbad
          · exact ⟨⟨k + 1, by omega, by go_num, trivial⟩, by simp [intOf]; omega⟩
      · obtain rfl : n = k := by omega
        go_wp2_with (go_at_call 9; refine (works_calls _).mono ?_; rintro e w7 ⟨rfl, hb7⟩; have HB7 := Lib.hid hb7; clear hb7)
        go_ret
        exact ⟨rfl, HBF.out.trans (HB7.out.mono HBF.out.size)⟩
end Go.Proofs.YtcnallabiffemaaGreatDoor

/- FnPlace: the statement. For every input the law's call returns true, and the input reads as it did. -/
set_option linter.unusedVariables false
set_option linter.unusedSimpArgs false
namespace Go.Proofs.YtcnallabiffemaaGreatDoor
open Go.ChangeShapes Go.WideShapes Go.ChangeAt Go.RowKit

theorem fnPl_any {a : Addr} {len cap : Nat} {zs : List Int} (s : Int) {w : World} (hl : len ≤ cap) (hm : cap ≤ maxLen) (hz : len ≤ zs.length) (hc : ∀ i, i < zs.length → w.cell? (a.add i) = some (.int .i64 (zs.getD i 0))) :
    Calls Tryz.prog 6 #[.slice (some a) len cap, .int .i64 s] w (TruePost w) := by
  unfold maxLen at hm
  by_cases h1 : 2147483647 < len
  · exact fnPl_big _ _ _ s h1 (by omega) w
  · by_cases h2 : len = 0 ∨ 1000 < len
    · exact fnPl_out _ _ _ s h2 (by omega) w
    · obtain ⟨b, off, spot⟩ := a
      have hspot : spot = none := by simpa [Addr.add] using World.cell?_spot (hc 0 (by omega))
      subst hspot
      have hlen : (zs.take len).length = len := by simp; omega
      rw [← hlen]
      refine fnPl_in s (fun i hi => ?_) (by omega) (by omega)
      rw [hlen] at hi
      rw [← add_plain, hc i (by omega)]
      simp [List.getD_eq_getElem?_getD, List.getElem?_take, hi]

def laidLP : List (String × DataW Unit) := [("unicode/utf8.acceptRanges", Rows.laid_unicode_utf8_acceptRanges), ("unicode/utf8.first", Rows.laid_unicode_utf8_first)]
theorem ownKnP : ownKnob Tryz.prog.godebug = none := by kernel_rfl
theorem laidOutP : laidOutB Tryz.prog = true := by kernel_rfl
theorem cells3P : Tryz.prog.cellsOf 3 = 1 := by kernel_rfl

set_option maxRecDepth 100000 in
theorem fnPlace_lifted (os : Os) (started : os.Started) (H : Type) (enc : TypeId × Value → H) :
    ReturnsInHanded {} Tryz.checked os 6 .any (fun w args => (Rows.fnPlaceSpec.pre enc Tryz.prog Tryz.f6 [] false w args ∧ laidMetH Tryz.prog laidLP w) ∧ sizedMet enc Tryz.prog Tryz.f6 (OpenSpec.ofChange Rows.fnPlaceSpec) false w args)
      (Rows.fnPlaceSpec.post enc Tryz.prog Tryz.f6 false true false false) := by
  refine returnsInHanded_of_change_and (C := Tryz.checked) (X := fun w _ => laidMetH Tryz.prog laidLP w) (fun _ _ _ hh h => h.of_heap hh) ownKnP started (by kernel_rfl) Tryz.func6
    (ChangeSpec.witness_shaped (enc := enc) (C := Tryz.checked) (os := os) (X := fun w _ => laidMetH Tryz.prog laidLP w) false (World.laidAll Tryz.prog os laidLP) #[.slice none 0 0, .int .i64 0] 8 (World.laidAll_os _ _ _)
      (World.shaped_of_ZipB (by kernel_rfl) (by kernel_rfl)) (by kernel_rfl) (by kernel_rfl) (by kernel_rfl)
      (by rw [MakeChecks.laidMetH_plain _ _ _ (by kernel_rfl)]; exact laidMet_laidAll _ (by kernel_rfl) (by kernel_rfl))) ?_
  intro W base args ds gs before hval0 hW _ _ hL _
  have hval : ∀ (j : Nat) t v, Tryz.f6.params[j]? = some t → args[j]? = some v → Value.okWide Tryz.prog W .any base t v := hval0
  have hW' := hW
  obtain ⟨p, q, hA0, hV, rfl, _, _⟩ := hW
  have hA : DataW.TrodAll enc Tryz.prog W 0 (fun _ => true) true Tryz.f6.params.toList args.toList ds p := hA0
  rw [Tryz.params6] at hA hval
  obtain ⟨v0, v1, d0, d1, p0, p1, rfl, rfl, rfl, h0, h1⟩ := trodAll_two hA
  obtain ⟨rfl, rfl⟩ := trodVars_none hV
  obtain ⟨y, rfl, rfl, rfl, wy⟩ := open_int Tryz.underlying3 (hval 1 3 v1 rfl rfl) h1
  have h0k := h0
  obtain ⟨a0, len, cap, rfl⟩ := okWide_slice Tryz.underlying28 (hval 0 28 v0 rfl rfl)
  obtain ⟨fuel, hf⟩ := h0
  simp only [List.append_nil] at hW'
  have hlt : ∀ x ∈ p0, x.block < W.heap.size := fun x hx => by simpa using hW'.lt x (by simpa using hx)
  have main : Calls Tryz.prog 6 #[.slice a0 len cap, .int .i64 y] W (TruePost W) := by
    rcases open_ints Tryz.underlying28 Tryz.underlying3 cells3P hf with ⟨hcs, hx⟩ | ⟨a, len', cap', zs, hcs, _, hl, hm, hz, hx, hcell, hwz⟩
    · simp [Value.cells] at hcs
      obtain ⟨rfl, rfl, rfl⟩ := hcs
      exact fnPl_out none 0 0 y (Or.inl rfl) (by omega) W
    · simp [Value.cells] at hcs
      obtain ⟨rfl, rfl, rfl⟩ := hcs
      simp only [if_true] at hz
      exact fnPl_any y hl hm (by omega) hcell
  refine main.mono fun e W' ⟨he, hb⟩ => ?_
  subst he
  exact ⟨_, rfl, _, _, _, [], p0 ++ [], [], hW', trodAll_mk1 (shut_bool Tryz.underlying4 _), trodAll_mk2 (Below.trod laidOutP (by kernel_rfl) (of_decide_eq_true (by kernel_rfl)) h0k hb hlt) (shut_int Tryz.underlying3 wy), rfl, hb.frame _, fun h => by cases h⟩

theorem fnPlace_holds : Rows.FnPlaceSaid :=
  OpenClaim.holds_of_wide 6 Tryz.f6 rfl rfl rfl rfl rfl rfl rfl ⟨rfl, rfl, rfl, rfl, rfl⟩ rfl rfl rfl rfl rfl (by kernel_rfl) Tryz.func6 (by kernel_rfl)
    (of_decide_eq_true (by kernel_rfl)) (by unfold Func.isWrapper; first | (rw [if_pos (by decide +kernel)]; kernel_rfl) | (rw [if_neg (by decide +kernel)]; exact ⟨rfl, rfl⟩))
    (fun os started H enc _ => fnPlace_lifted os started H enc)

theorem fnPlace_card : Rows.FnPlaceCardSaid :=
  Claim7.holds_tied_plain_at .later [] [.data, .pinned] true (true, "3c02546d83fb1081b50c595e10acd152b50cfb822275c845e90c4a4ec066cdf2") false
    fnPlace_holds (fun _ h => by cases h) (by kernel_rfl) (fun _ h => by cases h) fnPlace_row_tie rfl ⟨rfl, rfl⟩ (by kernel_rfl) rfl
    (fun f fn hf hfn => by
      obtain rfl : f = 6 := Option.some.inj ((show Tryz.prog.funcNamed "zxdatamatrix/laws.FnPlace" = some 6 by kernel_rfl).symm.trans hf) |>.symm
      obtain rfl : fn = Tryz.f6 := (Option.some.inj (Tryz.func6.symm.trans hfn)).symm
      exact ⟨by kernel_rfl, fun j t ht => by
        rw [Tryz.params6] at ht
        have hm : t ∈ [28, 3] := by simpa using Array.mem_of_getElem? ht
        have hall : ([28, 3].all fun u => !Tryz.prog.wantsStandIn u) = true := by kernel_rfl
        exact (show Tryz.prog.wantsStandIn t = false by simpa using List.all_eq_true.1 hall t hm)⟩)
    (by kernel_rfl)
#print axioms fnPlace_card
end Go.Proofs.YtcnallabiffemaaGreatDoor
