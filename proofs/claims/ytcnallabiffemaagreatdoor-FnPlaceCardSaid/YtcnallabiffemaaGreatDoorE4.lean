/- The walk of the placement: what its steps do to the bits. -/
import Derived.Test.YtcnallabiffemaaGreatDoorE3
set_option linter.unusedVariables false
set_option linter.unusedSimpArgs false
namespace Go.Proofs.YtcnallabiffemaaGreatDoor
open Go.RowKit

def setL (rows cols : Nat) (cw : List Nat) (pos : Nat) : Nat → List (Int × Int) → List Int → List Int
  | _, [], b => b
  | k, p :: ps, b => setL rows cols cw pos (k + 1) ps (setM rows cols cw pos k b p)
def foldE (rows cols : Nat) (cw : List Nat) : List (Nat × Int × Int) → List Int
  | [] => List.replicate (rows * cols) (-1)
  | ev :: evs => setL rows cols cw evs.length 1 (coords rows cols ev) (foldE rows cols cw evs)

def OccI (bits : List Int) (occ : Nat) : Prop := ∀ n, n < bits.length → decide (0 ≤ bits.getD n 0) = occ.testBit n

theorem length_setL (rows cols : Nat) (cw : List Nat) (pos : Nat) : ∀ (ps : List (Int × Int)) (k : Nat) (b : List Int), (setL rows cols cw pos k ps b).length = b.length
  | [], _, _ => rfl
  | p :: ps, k, b => by rw [setL, length_setL rows cols cw pos ps]; simp [setM]
theorem length_foldE (rows cols : Nat) (cw : List Nat) : ∀ evs, (foldE rows cols cw evs).length = rows * cols
  | [] => by simp [foldE]
  | ev :: evs => by rw [foldE, length_setL, length_foldE rows cols cw evs]

theorem getD_set {bits : List Int} {i n : Nat} {v : Int} (hn : n < bits.length) : (bits.set i v).getD n 0 = if i = n then v else bits.getD n 0 := by
  simp only [List.getD_eq_getElem?_getD, List.getElem?_set]
  by_cases e : i = n
  · subst e; simp [hn]
  · simp [e]
theorem testBit_put (occ i n : Nat) : (occ ||| 1 <<< i).testBit n = (occ.testBit n || decide (i = n)) := by
  rw [Nat.testBit_or, Nat.testBit_shiftLeft]
  by_cases e : i = n
  · subst e; simp
  · have : decide (n ≥ i) = true → Nat.testBit 1 (n - i) = false := fun h => by
      have h : i ≤ n := by simpa using h
      obtain ⟨d, rfl⟩ : ∃ d, n = i + (d + 1) := ⟨n - i - 1, by omega⟩
      rw [show i + (d + 1) - i = d + 1 by omega]
      simp [Nat.testBit_succ]
    by_cases h : i ≤ n
    · simp [h, this (by simpa using h), e]
    · simp [h, e]

theorem OccI.setM {rows cols : Nat} {cw : List Nat} {pos k occ o' : Nat} {bits : List Int} {p : Int × Int} (h : OccI bits occ) (hp : put1 rows cols occ p = some o') :
    InR rows cols p ∧ OccI (setM rows cols cw pos k bits p) o' := by
  unfold put1 at hp
  split at hp
  · rename_i hc
    simp only [Bool.and_eq_true] at hc
    obtain rfl : occ ||| 1 <<< (idxR rows cols p.1 p.2).toNat = o' := by simpa using hp
    refine ⟨inRB_ok hc.1, fun n hn => ?_⟩
    have hn' : n < bits.length := by simpa [YtcnallabiffemaaGreatDoor.setM] using hn
    rw [YtcnallabiffemaaGreatDoor.setM, getD_set hn', testBit_put]
    by_cases e : (idxR rows cols p.1 p.2).toNat = n
    · rw [if_pos e]; simp only [e, decide_true, Bool.or_true, decide_eq_true_eq]
      unfold b2i; split <;> decide
    · rw [if_neg e, h n hn']; simp [e]
  · cases hp
theorem OccI.setL {rows cols : Nat} {cw : List Nat} {pos : Nat} : ∀ (ps : List (Int × Int)) (k occ o' : Nat) (bits : List Int), OccI bits occ → putAll rows cols ps occ = some o' →
    (∀ p ∈ ps, InR rows cols p) ∧ OccI (setL rows cols cw pos k ps bits) o'
  | [], _, occ, o', bits, h, hp => ⟨(fun _ h => by cases h), by simp only [putAll, Option.some.injEq] at hp; subst hp; exact h⟩
  | p :: ps, k, occ, o', bits, h, hp => by
    rw [putAll] at hp
    obtain ⟨o1, h1, h2⟩ := Option.bind_eq_some_iff.1 hp
    obtain ⟨a, b⟩ := h.setM (cw := cw) (pos := pos) (k := k) h1
    obtain ⟨c, d⟩ := OccI.setL (cw := cw) (pos := pos) ps (k + 1) o1 o' _ b h2
    refine ⟨fun q hq => ?_, d⟩
    rcases List.mem_cons.1 hq with hq | hq
    · rw [hq]; exact a
    · exact c q hq

/-- a step that puts a shape -/
theorem putEv_ok {rows cols : Nat} {cw : List Nat} {ev : Nat × Int × Int} {s s' : PS} (hp : putEv rows cols ev s = some s') (h : OccI (foldE rows cols cw s.evs) s.occ) :
    s'.evs = ev :: s.evs ∧ (∀ p ∈ coords rows cols ev, InR rows cols p) ∧ OccI (foldE rows cols cw s'.evs) s'.occ := by
  unfold putEv at hp
  obtain ⟨o, h1, h2⟩ := Option.map_eq_some_iff.1 hp
  subst h2
  obtain ⟨a, b⟩ := OccI.setL (cw := cw) (pos := s.evs.length) _ 1 _ _ _ h h1
  exact ⟨rfl, a, b⟩
theorem putEv_evs {rows cols : Nat} {ev : Nat × Int × Int} {s s' : PS} (hp : putEv rows cols ev s = some s') : s'.evs = ev :: s.evs := by
  unfold putEv at hp
  obtain ⟨o, h1, h2⟩ := Option.map_eq_some_iff.1 hp
  subst h2; rfl

theorem visit_grow {rows cols : Nat} {row col : Int} {s s' : PS} (h : visit rows cols row col s = some s') : s.evs.length ≤ s'.evs.length := by
  unfold visit at h
  split at h
  · split at h
    · cases h; exact Nat.le_refl _
    · rw [putEv_evs h]; simp
  · cases h
theorem upV_grow {rows cols : Nat} {row col : Int} {s s' : PS} (h : upV rows cols row col s = some s') : s.evs.length ≤ s'.evs.length := by
  unfold upV at h
  split at h
  · split at h
    · exact visit_grow h
    · cases h; exact Nat.le_refl _
  · cases h
theorem downV_grow {rows cols : Nat} {row col : Int} {s s' : PS} (h : downV rows cols row col s = some s') : s.evs.length ≤ s'.evs.length := by
  unfold downV at h
  split at h
  · split at h
    · exact visit_grow h
    · cases h; exact Nat.le_refl _
  · cases h
theorem upG_grow {rows cols : Nat} : ∀ (k : Nat) (row col : Int) (s : PS) (x : Int × Int × PS), upG rows cols k row col s = some x → s.evs.length ≤ x.2.2.evs.length
  | 0, _, _, _, _, h => by cases h
  | k + 1, row, col, s, x, h => by
    rw [upG] at h
    obtain ⟨s1, h1, h2⟩ := Option.bind_eq_some_iff.1 h
    have := upV_grow h1
    split at h2
    · cases h2; exact this
    · exact Nat.le_trans this (upG_grow k _ _ _ _ h2)
theorem downG_grow {rows cols : Nat} : ∀ (k : Nat) (row col : Int) (s : PS) (x : Int × Int × PS), downG rows cols k row col s = some x → s.evs.length ≤ x.2.2.evs.length
  | 0, _, _, _, _, h => by cases h
  | k + 1, row, col, s, x, h => by
    rw [downG] at h
    obtain ⟨s1, h1, h2⟩ := Option.bind_eq_some_iff.1 h
    have := downV_grow h1
    split at h2
    · cases h2; exact this
    · exact Nat.le_trans this (downG_grow k _ _ _ _ h2)
theorem cornerG_grow {rows cols : Nat} {row col : Int} {s s' : PS} (h : cornerG rows cols row col s = some s') : s.evs.length ≤ s'.evs.length := by
  unfold cornerG at h
  split at h
  · cases h; exact Nat.le_refl _
  · rw [putEv_evs h]; simp

/-- what a round of the outer walk does -/
theorem outG_step {rows cols k : Nat} {row col : Int} {s f : PS} (h : outG rows cols (k + 1) row col s = some f) :
    okRC row col ∧ ∃ s1 x y, cornerG rows cols row col s = some s1 ∧ upG rows cols 200 row col s1 = some x ∧ okRC x.1 x.2.1 ∧ downG rows cols 200 (x.1 + 1) (x.2.1 + 3) x.2.2 = some y ∧
      (((rows : Int) ≤ y.1 + 3 ∧ (cols : Int) ≤ y.2.1 + 1 ∧ y.2.2 = f) ∨ (¬ ((rows : Int) ≤ y.1 + 3 ∧ (cols : Int) ≤ y.2.1 + 1) ∧ outG rows cols k (y.1 + 3) (y.2.1 + 1) y.2.2 = some f)) := by
  rw [outG] at h
  split at h
  · rename_i h0
    obtain ⟨s1, h1, h⟩ := Option.bind_eq_some_iff.1 h
    obtain ⟨x, h2, h⟩ := Option.bind_eq_some_iff.1 h
    split at h
    · rename_i h3
      obtain ⟨y, h4, h⟩ := Option.bind_eq_some_iff.1 h
      split at h
      · rename_i h5
        exact ⟨h0, s1, x, y, h1, h2, h3, h4, .inl ⟨h5.1, h5.2, by simpa using h⟩⟩
      · rename_i h5
        exact ⟨h0, s1, x, y, h1, h2, h3, h4, .inr ⟨h5, h⟩⟩
    · cases h
  · cases h
theorem outG_grow {rows cols : Nat} : ∀ (k : Nat) (row col : Int) (s f : PS), outG rows cols k row col s = some f → s.evs.length ≤ f.evs.length
  | 0, _, _, _, _, h => by cases h
  | k + 1, row, col, s, f, h => by
    obtain ⟨_, s1, x, y, h1, h2, _, h4, h5⟩ := outG_step h
    have a := cornerG_grow h1
    have b := upG_grow _ _ _ _ _ h2
    have c := downG_grow _ _ _ _ _ h4
    rcases h5 with ⟨_, _, rfl⟩ | ⟨_, h5⟩
    · omega
    · have := outG_grow k _ _ _ _ h5; omega
theorem OccI.init (rows cols : Nat) (cw : List Nat) : OccI (foldE rows cols cw []) 0 := by
  intro n hn
  have : n < rows * cols := by simpa [foldE] using hn
  simp [foldE, List.getElem?_replicate, this]
end Go.Proofs.YtcnallabiffemaaGreatDoor
