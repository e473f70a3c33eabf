/- impl.Encode, behind the writer; the law's own question 'works'. -/
import Derived.Test.YtcnallabiffemaaGreatDoorG16
import Derived.Test.YtcnallabiffemaaGreatDoorH0
set_option linter.unusedVariables false
set_option linter.unusedSimpArgs false
namespace Go.Proofs.YtcnallabiffemaaGreatDoor
open Go.RowKit

theorem shapesOk_calls {sh : Nat} (hs : sh < 3) (w : World) : Calls Tryz.prog 27 #[.int .i64 sh] w fun e w' => e = .returned (.tuple #[.int .i64 sh, .bool true]) ∧ Below w.heap.size w w' :=
  (shapes_calls sh w).mono fun e w' ⟨h, hb⟩ => by
    rcases h with ⟨_, _, h⟩ | ⟨h, _⟩
    · exact ⟨h, hb⟩
    · exact absurd (by omega) h

theorem enter29 (a b c : Value) : ∀ w, (callFunc 29 #[a, b, c]).run Tryz.prog w = .ok (.enter 29 #[a, b, c]) w := fun _ => by kernel_rfl
def EncodePost (sw sh : Nat) (T : Nat → Nat → Int) (w : World) (e : Ending) (w' : World) : Prop :=
  ∃ v gs, e = .returned (.tuple #[v, .bool true]) ∧ RowsM w' w.heap.size v gs (matT sw sh T) ∧ Below w.heap.size w w'

theorem RowsM.base {w : World} {base b2 : Nat} {v : Value} {gs : List (Nat × Nat)} {rows : List (List Nat)} (h : RowsM w base v gs rows) (hb : b2 ≤ base) : RowsM w b2 v gs rows := by
  refine ⟨h.len, ?_, fun i hi => by
    obtain ⟨h1, h2, h3⟩ := h.row i hi
    exact ⟨h1, by omega, h3⟩⟩
  obtain ⟨h1, h2⟩ := h.own
  refine ⟨h1, ?_⟩
  rcases h2 with h | ⟨g, cap, cur, rfl, a2, a3, a4, a5, a6⟩
  · exact .inl h
  · exact .inr ⟨g, cap, cur, rfl, by omega, a3, a4, a5, a6⟩
def EncTry (po sw sh : Nat) (T : Nat → Nat → Int) (w : World) (e : Ending) (w' : World) : Prop :=
  ∃ v gs B, e = .returned (.bool true) ∧ po < B ∧ w'.heap[po]? = some (.cells #[v] 24) ∧ RowsM w' B v gs (matT sw sh T) ∧ Below w.heap.size w w'
theorem enc_try {w w1 w3 : World} {s : ByteArray} {pt ps po shape sw sh mw mh dw : Nat} {bits : List Int} (h30 : ∀ w, Calls Tryz.prog 30 #[.string s, .int .i64 shape] w (WritePost sw sh mw mh dw bits w)) (hw : sw ≤ 1000) (hh : sh ≤ 1000) (hw0 : 1 ≤ sw) (hh0 : 1 ≤ sh)
    (hpt : w3.heap[pt]? = some (.cells #[.string s] 9)) (hpo : w3.heap[po]? = some (.cells #[.slice none 0 0] 24)) (hps : w3.heap[ps]? = some (.cells #[.int .i64 shape] 55)) (hb : Below w.heap.size w w3) (hwp : w.heap.size ≤ po) :
    Calls Tryz.prog 28 #[.func (.func 29) #[] #[.pointer (some ⟨pt, 0, none⟩), .pointer (some ⟨ps, 0, none⟩), .pointer (some ⟨po, 0, none⟩)]] w3 (EncTry po sw sh (modT mw mh dw bits) w) := by
  have lt := lt_of_blk hpt
  have lo := lt_of_blk hpo
  have ls := lt_of_blk hps
  have k1 : (w3.alloc (.cells #[.bool false] 4)).heap[po]? = _ := (Below.heap_alloc _ _ _ lo).trans hpo
  refine (try_calls (R := fun b w' => EncR po (w3.heap.size + 1) sw sh (modT mw mh dw bits) (w3.alloc (.cells #[.bool false] 4)) b w') (enter29 _ _ _) ((encClo_calls (s := s) (shape := shape) (bits := bits) (by rw [cell_blk ((Below.heap_alloc _ _ _ lt).trans hpt)]; rfl) (by rw [cell_blk ((Below.heap_alloc _ _ _ ls).trans hps)]; rfl) k1 (h30 _) hw hh hw0).mono ?_)).mono ?_
  · rintro e w' ⟨b, rfl, hr⟩
    have hr' : EncR po (w3.heap.size + 1) sw sh (modT mw mh dw bits) (w3.alloc (.cells #[.bool false] 4)) b w' := by simpa using hr
    refine ⟨b, rfl, ?_, hr'⟩
    obtain ⟨_, v, gs, _, _, hbut⟩ := hr
    exact (hbut.rest _ (by simp) (by omega)).trans (new_last rfl _)
  · rintro e w'' ⟨b, w2, rfl, hr, rfl⟩
    obtain ⟨rfl, v, gs, h1, h2, hbut⟩ := hr
    refine ⟨v, gs, w3.heap.size + 1, rfl, by omega, ?_, h1.set_ne (by simp) _, ?_⟩
    · rw [Below.heap_setCell _ _ _ _ (by simp; omega)]; exact h2
    · have hz := hb.size
      exact ((hb.alloc hz _).trans (hbut.below.mono hwp)).setCell (by simpa using hz) _

set_option maxRecDepth 100000 in
set_option maxHeartbeats 4000000 in
theorem encode_calls {w : World} {s : ByteArray} {shape sw sh mw mh dw : Nat} {bits : List Int} (hs : shape < 3)
    (h30 : ∀ w, Calls Tryz.prog 30 #[.string s, .int .i64 shape] w (WritePost sw sh mw mh dw bits w)) (hw : sw ≤ 1000) (hh : sh ≤ 1000) (hw0 : 1 ≤ sw) (hh0 : 1 ≤ sh) :
    Calls Tryz.prog 10 #[.string s, .int .i64 shape] w (EncodePost sw sh (modT mw mh dw bits) w) := by
  have hmf : ∀ (fn : Fn) (first cap : Array Value) (w : World), (Instr.makeFunc fn first cap).run Tryz.prog w = .ok (.func fn first cap) w := fun _ _ _ _ => rfl
  have b0 : Below w.heap.size w ((w.alloc (.cells #[.string s] 9)).alloc (.cells #[.slice none 0 0] 24)) := ((Below.refl _ _).alloc (Nat.le_refl _) _).alloc (by simp) _
  have c1 : ((w.alloc (.cells #[.string s] 9)).alloc (.cells #[.slice none 0 0] 24)).heap[w.heap.size]? = some (.cells #[.string s] 9) := (Below.heap_alloc _ _ _ (by simp)).trans (new_last rfl _)
  have c2 : ((w.alloc (.cells #[.string s] 9)).alloc (.cells #[.slice none 0 0] 24)).heap[w.heap.size + 1]? = some (.cells #[.slice none 0 0] 24) := new_last (by simp) _
  have B0 := Lib.hid b0
  have C1 := Lib.hid c1
  have C2 := Lib.hid c2
  clear b0 c1 c2
  go_enter Tryz.func10, Tryz.ntmps10
  go_wp2_with (first | (go_at_call 27; refine (shapesOk_calls hs _).mono ?_; rintro e w1 ⟨rfl, hb⟩; have hz := hb.size; simp only [alloc_heap, Array.size_push] at hz; have D1 := Lib.hid ((Below.heap_alloc w1 (.cells #[.int .i64 shape] 55) _ (by omega)).trans ((hb.block _ (by simp; omega)).trans C1.out)); have D2 := Lib.hid ((Below.heap_alloc w1 (.cells #[.int .i64 shape] 55) _ (by omega)).trans ((hb.block _ (by simp)).trans C2.out)); have DB := Lib.hid ((B0.out.trans (hb.mono (by simp; omega))).alloc (by omega) (.cells #[.int .i64 shape] 55)); clear hb) | (go_at_call 28; refine (enc_try (pt := w.heap.size) (ps := w1.heap.size) (po := w.heap.size + 1) (w1 := w1) h30 hw hh hw0 hh0 D1.out D2.out (new_last rfl _) DB.out (by omega)).mono ?_; rintro e w4 ⟨v, gs, B, rfl, hpB, hpo, hr, hb4⟩; obtain ⟨gv, cv, rfl⟩ := own_slice hr.own (by simp; omega); rw [matT_len] at hpo hr; have k : w4.cell? ⟨w.heap.size + 1, 0, none⟩ = some (.slice (some ⟨gv, 0, none⟩) sh cv) := (cell_blk hpo 0).trans rfl; have f := frozen_blk hpo 0; have HPO := Lib.hid hpo; have HR := Lib.hid hr; have HB4 := Lib.hid hb4; clear hpo hr hb4))
  have k2 : (w4.setCell ⟨w.heap.size + 1, 0, none⟩ (.slice (some ⟨gv, 0, none⟩) sh cv)).cell? ⟨w.heap.size + 1, 0, none⟩ = some (.slice (some ⟨gv, 0, none⟩) sh cv) := by rw [cell_blk (heap_setCell_at HPO.out 0 _)]; rfl
  refine bodyPost_ret (v := .tuple #[.slice (some ⟨gv, 0, none⟩) sh cv, .bool true]) (by simp [results, Tryz.results10, go_sem, k2]) rfl ⟨_, gs, rfl, ?_, HB4.out.setCell (by simp) _⟩
  exact (HR.out.set_ne hpB _).base (by omega)
def LenPost (n : Nat) (w : World) (e : Ending) (w' : World) : Prop := ∃ g cap, e = .returned (.tuple #[.slice (some ⟨g, 0, none⟩) n cap, .bool true]) ∧ Below w.heap.size w w'
theorem EncodePost.len {sw sh : Nat} {T : Nat → Nat → Int} {w w' : World} {e : Ending} (h : EncodePost sw sh T w e w') (h1 : 1 ≤ sh) : LenPost sh w e w' := by
  obtain ⟨v, gs, rfl, hr, hb⟩ := h
  obtain ⟨g, cap, rfl⟩ := own_slice hr.own (by simp; omega)
  exact ⟨g, cap, by rw [matT_len], hb⟩
theorem enc6 (w : World) : Calls Tryz.prog 10 #[.string ⟨#[49, 50, 51, 52, 53, 54]⟩, .int .i64 0] w (LenPost 10 w) := by
  obtain ⟨bits, h⟩ := write6
  exact (encode_calls (shape := 0) (s := s6) (by omega) h (by omega) (by omega) (by omega) (by omega)).mono fun e w' h => h.len (by omega)
/-- the law's question: does the package answer at all -/
theorem works_calls (w : World) : Calls Tryz.prog 9 #[] w fun e w' => e = .returned (.bool true) ∧ Below w.heap.size w w' := by
  go_enter Tryz.func9, Tryz.ntmps9
  go_wp2_with (go_at_call 10; refine (enc6 _).mono ?_; rintro e w1 ⟨g, cap, rfl, hb⟩; have HB := Lib.hid hb; clear hb)
  go_ret
  exact ⟨rfl, HB.out⟩
end Go.Proofs.YtcnallabiffemaaGreatDoor
