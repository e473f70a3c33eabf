/- The check codewords of a block, as the encoder reckons them: plain. -/
import Derived.Test.YtcnallabiffemaaGreatDoorC0
set_option linter.unusedVariables false
set_option linter.unusedSimpArgs false
namespace Go.Proofs.YtcnallabiffemaaGreatDoor
open Go.RowKit

def nl (xs : List Nat) : List Int := xs.map Int.ofNat
@[simp] theorem length_nl (xs : List Nat) : (nl xs).length = xs.length := by simp [nl]
theorem getD_nl (xs : List Nat) (i : Nat) : (nl xs).getD i 0 = ((xs.getD i 0 : Nat) : Int) := by
  simp only [nl, List.getD_eq_getElem?_getD, List.getElem?_map]; cases xs[i]? <;> rfl
theorem set_nl (xs : List Nat) (i v : Nat) : (nl xs).set i (v : Int) = nl (xs.set i v) := by simp only [nl, List.map_set]; rfl
theorem zs_nl (n : Nat) : zs n = nl (List.replicate n 0) := by simp [zs, nl]

/-- bytes from the head of a block on -/
def Bytes (w : World) (b : Nat) (xs : List Nat) : Prop := b < w.heap.size ∧ ∀ i, i < xs.length → w.cell? ⟨b, i, none⟩ = some (.int .u8 ((xs.getD i 0 : Nat) : Int))
theorem Bytes.below {w w' : World} {b B : Nat} {xs : List Nat} (h : Bytes w b xs) (hb : Below B w w') (hB : b < B) : Bytes w' b xs :=
  ⟨Nat.lt_of_lt_of_le h.1 hb.size, fun i hi => (hb.cell (p := ⟨b, i, none⟩) hB).trans (h.2 i hi)⟩
theorem Bytes.of_row {w : World} {b : Nat} {T : TypeId} {xs : List Nat} (h : Row w b .u8 T (nl xs)) : Bytes w b xs :=
  ⟨h.lt, fun i hi => by rw [h.cell (by simpa using hi), getD_nl]⟩

def lg (m : Nat) : Nat := ((logL 255).getD m 0).toNat
def facN (t : Nat) : List Nat := (facL t).map Int.toNat
def prodT (m p : Nat) : Nat := if m = 0 ∨ p = 0 then 0 else powN ((lg m + lg p) % 255)

theorem log_get {m : Nat} (h : m < 256) : (logL 255).getD m 0 = ((lg m : Nat) : Int) ∧ lg m < 255 := by
  have : ∀ m, m < 256 → (logL 255).getD m 0 = ((lg m : Nat) : Int) ∧ lg m < 255 := by decide +kernel
  exact this m h
theorem alog_get {i : Nat} (h : i < 255) : (alogL 255).getD i 0 = ((powN i : Nat) : Int) := by
  have : ∀ i, i < 255 → (alogL 255).getD i 0 = ((powN i : Nat) : Int) := by decide +kernel
  exact this i h
theorem fac_nl : ∀ t, t < 16 → facL t = nl (facN t) ∧ (∀ p ∈ facN t, p < 256) := by decide +kernel
theorem fac_len : ∀ t, t < 16 → ((facN t).length : Int) = facSets.getD t 0 := by decide +kernel

def inner (m : Nat) (poly : List Nat) : Nat → List Nat → List Nat
  | 0, cur => cur.set 0 (prodT m (poly.getD 0 0))
  | k + 1, cur => inner m poly k (cur.set (k + 1) (cur.getD k 0 ^^^ prodT m (poly.getD (k + 1) 0)))
def eccStep (poly : List Nat) (e : List Nat) (c : Nat) : List Nat := inner (e.getD (poly.length - 1) 0 ^^^ c) poly (poly.length - 1) e
def eccState (poly : List Nat) (cw : List Nat) : List Nat := cw.foldl (eccStep poly) (List.replicate poly.length 0)
def eccOut (poly : List Nat) (cw : List Nat) : List Nat := (eccState poly cw).reverse

def Small (xs : List Nat) : Prop := ∀ i, xs.getD i 0 < 256
theorem Small.set {xs : List Nat} (h : Small xs) {i v : Nat} (hv : v < 256) : Small (xs.set i v) := by
  intro j
  simp only [List.getD_eq_getElem?_getD, List.getElem?_set]
  split
  · split
    · exact hv
    · simp
  · have := h j; simpa [List.getD_eq_getElem?_getD] using this
theorem small_zs (n : Nat) : Small (List.replicate n 0) := by
  intro i
  simp only [List.getD_eq_getElem?_getD, List.getElem?_replicate]
  split <;> simp
theorem small_of_mem {xs : List Nat} (h : ∀ p ∈ xs, p < 256) : Small xs := by
  intro i
  simp only [List.getD_eq_getElem?_getD]
  cases e : xs[i]? with
  | none => simp
  | some v => simpa using h v (List.mem_of_getElem? e)
theorem prodT_lt (m p : Nat) : prodT m p < 256 := by
  unfold prodT; split
  · omega
  · exact powN_lt _
theorem xor_lt {a b : Nat} (ha : a < 256) (hb : b < 256) : a ^^^ b < 256 := Nat.xor_lt_two_pow (n := 8) ha hb
theorem inner_ok (m : Nat) (poly : List Nat) : ∀ k cur, Small cur → Small (inner m poly k cur) ∧ (inner m poly k cur).length = cur.length
  | 0, cur, h => ⟨h.set (prodT_lt _ _), by simp [inner]⟩
  | k + 1, cur, h => by
    have := inner_ok m poly k _ (h.set (i := k + 1) (xor_lt (h k) (prodT_lt m (poly.getD (k + 1) 0))))
    exact ⟨this.1, this.2.trans (by simp)⟩
theorem eccStep_ok {poly e : List Nat} (c : Nat) (h : Small e) : Small (eccStep poly e c) ∧ (eccStep poly e c).length = e.length := inner_ok _ _ _ _ h
theorem eccState_snoc (poly cw : List Nat) (k : Nat) (h : k < cw.length) : eccState poly (cw.take (k + 1)) = eccStep poly (eccState poly (cw.take k)) (cw.getD k 0) := by
  unfold eccState
  rw [List.take_succ_eq_append_getElem h, List.foldl_append]
  simp [h]
theorem eccState_ok (poly : List Nat) : ∀ (cw : List Nat) (e : List Nat), Small e → e.length = poly.length → Small (cw.foldl (eccStep poly) e) ∧ (cw.foldl (eccStep poly) e).length = poly.length
  | [], e, h, hl => ⟨h, hl⟩
  | c :: cw, e, h, hl => eccState_ok poly cw _ (eccStep_ok c h).1 ((eccStep_ok c h).2.trans hl)
theorem eccState_small (poly cw : List Nat) : Small (eccState poly cw) ∧ (eccState poly cw).length = poly.length := eccState_ok poly cw _ (small_zs _) (by simp)
end Go.Proofs.YtcnallabiffemaaGreatDoor
