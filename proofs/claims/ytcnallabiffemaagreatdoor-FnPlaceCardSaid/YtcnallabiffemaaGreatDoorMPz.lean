import Derived.Test.YtcnallabiffemaaGreatDoorE5

/- The reference's walk of the placement, with no memory in sight; what it says of the package's. -/
set_option linter.unusedVariables false
set_option linter.unusedSimpArgs false
namespace Go.Proofs.YtcnallabiffemaaGreatDoor
open Go.RowKit

def upS (rows cols : Nat) : Nat → Int → Int → PS → Option (Int × Int × PS)
  | 0, _, _, _ => none
  | k + 1, row, col, s => if okRC row col then (if 0 ≤ row ∧ col < cols then (upV rows cols row col s).bind fun s' => upS rows cols k (row - 2) (col + 2) s' else some (row, col, s)) else none
def downS (rows cols : Nat) : Nat → Int → Int → PS → Option (Int × Int × PS)
  | 0, _, _, _ => none
  | k + 1, row, col, s => if okRC row col then (if row < rows ∧ 0 ≤ col then (downV rows cols row col s).bind fun s' => downS rows cols k (row + 2) (col - 2) s' else some (row, col, s)) else none
def outS (rows cols : Nat) : Nat → Int → Int → PS → Option PS
  | 0, _, _, _ => none
  | k + 1, row, col, s => if okRC row col then (if row < rows ∨ col < cols then (cornerG rows cols row col s).bind fun s1 => (upS rows cols 200 row col s1).bind fun x => (downS rows cols 200 (x.1 + 1) (x.2.1 + 3) x.2.2).bind fun y =>
      outS rows cols k (y.1 + 3) (y.2.1 + 1) y.2.2 else some s) else none
def placeS (rows cols : Nat) : Option PS := outS rows cols 100 4 0 ⟨0, []⟩

def evB (a b : Nat × Int × Int) : Bool := a.1 == b.1 && a.2.1 == b.2.1 && a.2.2 == b.2.2
def evsB : List (Nat × Int × Int) → List (Nat × Int × Int) → Bool
  | [], [] => true
  | a :: al, b :: bl => evB a b && evsB al bl
  | _, _ => false
theorem evsB_eq : ∀ a b, evsB a b = true → a = b
  | [], [], _ => rfl
  | [], _ :: _, h => by simp [evsB] at h
  | _ :: _, [], h => by simp [evsB] at h
  | ⟨a1, a2, a3⟩ :: al, ⟨b1, b2, b3⟩ :: bl, h => by
    simp only [evsB, evB, Bool.and_eq_true, beq_iff_eq] at h
    obtain ⟨⟨⟨rfl, rfl⟩, rfl⟩, h⟩ := h
    rw [evsB_eq al bl h]
def holes (r c : Nat) : Nat := ((0 ||| 1 <<< (r * c - 1)) ||| 1 <<< (r * c - 2)) ||| 1 <<< (r * c - c - 1) ||| 1 <<< (r * c - c - 2)
def fullB (r c occ : Nat) : Bool := occ == 2 ^ (r * c) - 1
def holeB (r c occ : Nat) : Bool := (occ ||| holes r c) == 2 ^ (r * c) - 1 && (occ &&& holes r c) == 0
def chkS (r c : Nat) : Bool := match placeS r c, placeG r c with
  | some a, some b => evsB a.evs b.evs && (fullB r c a.occ || holeB r c a.occ)
  | _, _ => false

def setLS (rows cols pos : Nat) : Nat → List (Int × Int) → List Int → List Int
  | _, [], b => b
  | k, p :: ps, b => setLS rows cols pos (k + 1) ps (b.set (idxR rows cols p.1 p.2).toNat ((8 * pos + k : Nat) : Int))
def foldS (rows cols : Nat) : List (Nat × Int × Int) → List Int
  | [] => List.replicate (rows * cols) (-1)
  | ev :: evs => setLS rows cols evs.length 0 (coords rows cols ev) (foldS rows cols evs)
theorem length_setLS (rows cols pos : Nat) : ∀ (ps : List (Int × Int)) (k : Nat) (b : List Int), (setLS rows cols pos k ps b).length = b.length
  | [], _, _ => rfl
  | p :: ps, k, b => by rw [setLS, length_setLS rows cols pos ps]; simp
theorem length_foldS (rows cols : Nat) : ∀ evs, (foldS rows cols evs).length = rows * cols
  | [] => by simp [foldS]
  | ev :: evs => by rw [foldS, length_setLS, length_foldS rows cols evs]

/-- what a place of the reference says of a word's bits -/
def phi (cw : List Nat) (z : Int) : Int := if z < 0 then z else b2i (bitOf (cw.getD (z.toNat / 8) 0) (z.toNat % 8 + 1))
theorem setL_map (rows cols : Nat) (cw : List Nat) (pos : Nat) : ∀ (ps : List (Int × Int)) (k : Nat) (b : List Int), k + ps.length ≤ 8 → setL rows cols cw pos (k + 1) ps (b.map (phi cw)) = (setLS rows cols pos k ps b).map (phi cw)
  | [], _, _, _ => rfl
  | p :: ps, k, b, h => by
    simp only [List.length_cons] at h
    rw [setL, setLS, ← setL_map rows cols cw pos ps (k + 1) _ (by omega)]
    congr 1
    have e : phi cw ((8 * pos + k : Nat) : Int) = b2i (bitOf (cw.getD pos 0) (k + 1)) := by
      unfold phi
      rw [if_neg (by omega), Int.toNat_natCast, show (8 * pos + k) / 8 = pos by omega, show (8 * pos + k) % 8 = k by omega]
    rw [setM, ← e, List.map_set]
theorem coords_len (rows cols : Nat) (ev : Nat × Int × Int) : (coords rows cols ev).length = 8 := by
  unfold coords
  split <;> rfl
theorem fold_map (rows cols : Nat) (cw : List Nat) : ∀ evs, foldE rows cols cw evs = (foldS rows cols evs).map (phi cw)
  | [] => by simp [foldE, foldS, phi]
  | ev :: evs => by
    rw [foldE, foldS, fold_map rows cols cw evs]
    exact setL_map rows cols cw _ _ 0 _ (by rw [coords_len]; omega)

/-- the numbers that stand: -1, or below eight times the words -/
def LowS (N : Nat) (b : List Int) : Prop := ∀ i, i < b.length → b.getD i 0 = -1 ∨ (0 ≤ b.getD i 0 ∧ b.getD i 0 < 8 * (N : Int))
theorem LowS.set {N : Nat} {b : List Int} (h : LowS N b) (n m : Nat) (hm : m < 8 * N) : LowS N (b.set n (m : Int)) := by
  intro i hi
  rw [List.length_set] at hi
  rw [getD_set hi]
  split
  · right; omega
  · exact h i hi
theorem LowS.setL {rows cols N pos : Nat} (hp : pos < N) : ∀ (ps : List (Int × Int)) (k : Nat) (b : List Int), k + ps.length ≤ 8 → LowS N b → LowS N (setLS rows cols pos k ps b)
  | [], _, _, _, h => h
  | p :: ps, k, b, hk, h => by
    simp only [List.length_cons] at hk
    rw [setLS]
    exact LowS.setL hp ps (k + 1) _ (by omega) (h.set _ _ (by omega))
theorem low_fold (rows cols : Nat) (N : Nat) : ∀ evs : List (Nat × Int × Int), evs.length ≤ N → LowS N (foldS rows cols evs)
  | [], _ => fun i hi => by
    have : i < rows * cols := by simpa [foldS] using hi
    left; simp [foldS, List.getElem?_replicate, this]
  | ev :: evs, h => by
    simp only [List.length_cons] at h
    rw [foldS]
    exact LowS.setL (by omega) _ 0 _ (by rw [coords_len]; omega) (low_fold rows cols N evs (by omega))

/-- the pattern in the corner at the right below -/
def finishS (rows cols : Nat) (bits : List Int) : List Int :=
  if bits.getD (rows * cols - 1) 0 < 0 then (bits.set (rows * cols - 2) (-2)).set (rows * cols - cols - 1) (-2) else bits
theorem length_finishS (rows cols : Nat) (b : List Int) : (finishS rows cols b).length = b.length := by
  unfold finishS; split <;> simp
/-- the module that a place asks for -/
def wantN (cw : List Nat) (z : Int) : Nat := if 0 ≤ z then (cw.getD (z.toNat / 8) 0 >>> (7 - z.toNat % 8)) &&& 1 else if z = -1 then 1 else 0
/-- a module's bit -/
def pixN (x : Int) : Nat := if x == 1 then 1 else 0
theorem want_bit (cw : List Nat) (z : Int) (h : 0 ≤ z) : pixN (phi cw z) = wantN cw z := by
  have e0 : phi cw z = b2i (bitOf (cw.getD (z.toNat / 8) 0) (z.toNat % 8 + 1)) := by unfold phi; rw [if_neg (by omega)]
  have e1 : wantN cw z = (cw.getD (z.toNat / 8) 0 >>> (7 - z.toNat % 8)) &&& 1 := by unfold wantN; rw [if_pos h]
  rw [e0, e1]
  unfold bitOf
  rw [show 8 - (z.toNat % 8 + 1) = 7 - z.toNat % 8 by omega]
  generalize cw.getD (z.toNat / 8) 0 = c
  generalize 7 - z.toNat % 8 = k
  have e : c.testBit k = ((c >>> k) &&& 1 != 0) := by rw [Nat.testBit, Nat.and_comm]
  have h1 : (c >>> k) &&& 1 = (c >>> k) % 2 := Nat.and_one_is_mod _
  rw [e, h1]
  rcases Nat.mod_two_eq_zero_or_one (c >>> k) with h2 | h2 <;> simp [h2, b2i, pixN]

theorem place_law {rows cols : Nat} {occ : Nat} {evs : List (Nat × Int × Int)} (cw : List Nat) (r0 : 6 ≤ rows) (c0 : 6 ≤ cols) (ho : OccI (foldS rows cols evs) occ) (hf : fullB rows cols occ = true ∨ holeB rows cols occ = true) {i : Nat} (hi : i < rows * cols) :
    pixN ((finishB rows cols (foldE rows cols cw evs)).getD i 0) = wantN cw ((finishS rows cols (foldS rows cols evs)).getD i 0) := by
  have hl := length_foldS rows cols evs
  have hlow := low_fold rows cols evs.length evs (Nat.le_refl _)
  have hn : 6 * cols ≤ rows * cols := Nat.mul_le_mul_right _ r0
  rw [fold_map]
  generalize foldS rows cols evs = S at *
  obtain ⟨n, hnn⟩ : ∃ n, n = rows * cols := ⟨_, rfl⟩
  have hg : ∀ i, i < n → (S.map (phi cw)).getD i 0 = phi cw (S.getD i 0) := fun i hi => by
    simp [List.getD_eq_getElem?_getD, List.getElem?_map, List.getElem?_eq_getElem (show i < S.length by omega)]
  have hll : (S.map (phi cw)).length = n := by simp [hl, hnn]
  have hneg : ∀ z : Int, z < 0 → phi cw z = z := fun z hz => by unfold phi; rw [if_pos hz]
  have hpos : ∀ z : Int, 0 ≤ z → 0 ≤ phi cw z := fun z hz => by unfold phi; rw [if_neg (by omega)]; unfold b2i; split <;> decide
  unfold finishB finishS
  rw [← hnn] at hi hn ⊢
  rw [hg (n - 1) (by omega)]
  rcases hf with hf | hf
  · have hocc : occ = 2 ^ n - 1 := by rw [hnn]; simpa [fullB] using hf
    have hall : ∀ i, i < n → 0 ≤ S.getD i 0 := fun i hi => by
      have := ho i (by omega)
      rw [hocc, Nat.testBit_two_pow_sub_one] at this
      simpa [hi] using this
    rw [if_pos (hpos _ (hall _ (by omega))), if_neg (by have := hall (n - 1) (by omega); omega), hg i hi]
    exact want_bit cw _ (hall i hi)
  · have hh : (occ ||| holes rows cols) = 2 ^ n - 1 ∧ (occ &&& holes rows cols) = 0 := by rw [hnn]; simpa [holeB] using hf
    have hb : ∀ i, (holes rows cols).testBit i = (decide (n - 1 = i) || decide (n - 2 = i) || decide (n - cols - 1 = i) || decide (n - cols - 2 = i)) := fun i => by
      unfold holes
      rw [testBit_put, testBit_put, testBit_put, testBit_put, ← hnn]; simp
    have hS : ∀ i, i < n → decide (0 ≤ S.getD i 0) = !(holes rows cols).testBit i := fun i hi => by
      rw [ho i (by omega)]
      have h1 := congrArg (fun x => Nat.testBit x i) hh.1
      have h2 := congrArg (fun x => Nat.testBit x i) hh.2
      simp only [Nat.testBit_or, Nat.testBit_and, Nat.testBit_two_pow_sub_one, Nat.zero_testBit, hi, decide_true] at h1 h2
      revert h1 h2
      cases occ.testBit i <;> cases (holes rows cols).testBit i <;> simp
    have hm : ∀ i, i < n → (holes rows cols).testBit i = true → S.getD i 0 = -1 := fun i hi ht => by
      have := hS i hi
      rw [ht] at this
      have h3 : ¬ 0 ≤ S.getD i 0 := by simpa using this
      rcases hlow i (by omega) with h | h
      · exact h
      · omega
    have e1 : S.getD (n - 1) 0 = -1 := hm _ (by omega) (by rw [hb]; simp)
    rw [e1, hneg (-1) (by omega), if_neg (by omega), if_pos (by omega)]
    rw [getD_set (by simp; omega), getD_set (by omega), getD_set (by simp; omega), getD_set (by omega), hg i hi]
    by_cases q1 : n - 1 = i
    · rw [if_neg (by omega), if_pos q1, if_neg (by omega), if_neg (by omega), ← q1, e1]; rfl
    · by_cases q2 : n - 2 = i
      · rw [if_neg (by omega), if_neg q1, if_neg (by omega), if_pos q2, hm i hi (by rw [hb]; simp [q2]), hneg (-1) (by omega)]; rfl
      · by_cases q3 : n - cols - 1 = i
        · rw [if_neg (by omega), if_neg q1, if_pos q3, hm i hi (by rw [hb]; simp [q3]), hneg (-1) (by omega)]; rfl
        · by_cases q4 : n - cols - 2 = i
          · rw [if_pos q4, if_neg q3, if_neg q2, hm i hi (by rw [hb]; simp [q4])]; rfl
          · rw [if_neg q4, if_neg q1, if_neg q3, if_neg q2]
            have := hS i hi
            rw [hb] at this
            simp only [q1, q2, q3, q4, decide_false, Bool.or_self, Bool.not_false, decide_eq_true_eq] at this
            exact want_bit cw _ this
end Go.Proofs.YtcnallabiffemaaGreatDoor
