/- EncodeHighLevel of the six digits 123456. -/
import Derived.Test.YtcnallabiffemaaGreatDoorG12
import Derived.Outline
set_option linter.unusedVariables false
set_option linter.unusedSimpArgs false
namespace Go.Proofs.YtcnallabiffemaaGreatDoor
open Go.RowKit
theorem hme : ∀ w : World, (method 334 158 (Value.agg #[]) "zxdatamatrix/pub/zxdmencoder.encode").run Tryz.prog w = .ok (169, Value.agg #[]) w := fun _ => by kernel_rfl
def s6 : ByteArray := ⟨#[49, 50, 51, 52, 53, 54]⟩
def d6 : List Nat := [49, 50, 51, 52, 53, 54]
def c6 : List Nat := [142, 164, 186]

theorem dig6 : ∀ k, k < 3 → 2 ≤ digRun (d6.drop (2 * k)) := by decide +kernel
theorem pair6 : ∀ k, k < 3 → c6.take k ++ [pairOf (d6.getD (2 * k) 0) (d6.getD (2 * k + 1) 0)] = c6.take (k + 1) := by decide +kernel
theorem look6 : lookSym (3 : Nat) 0 = some 0 := by decide +kernel
theorem noHead6 : noHead s6 := by unfold noHead; exact ⟨by decide +kernel, by decide +kernel⟩
theorem small6 : Small d6 := small_of_mem (by decide +kernel)
theorem zz6 (w : World) : Calls Tryz.prog 126 #[.int .i64 1, .string s6] w (HighPost d6 w) :=
  zz_calls d6 rfl (by decide +kernel) (fun k => by
    rcases Nat.lt_or_ge k 6 with h | h
    · exact (by decide +kernel : ∀ k, k < 6 → d6.getD k 0 < 128) k h
    · rw [List.getD_eq_getElem?_getD, List.getElem?_eq_none (by simpa [d6] using h)]; decide) (by decide) (by decide)

/-- the place of the context, as a number -/
def posAt (w : World) (c : Nat) : Nat := match w.cell? ⟨c, 5, none⟩ with | some (.int _ n) => n.toNat | _ => 0
theorem Ctx.posAt {w0 w : World} {base c mb mcap shape : Nat} {msg : List Nat} {v : Value} {cw : List Nat} {p : Nat} {ne : Int} {sym : Option (Nat × Nat)} {skip : Int}
    (h : Ctx w0 w base c mb mcap shape msg v cw p ne sym skip) : posAt w c = p := by unfold Proofs.YtcnallabiffemaaGreatDoor.posAt; rw [h.c5]; rfl

theorem ctx_start {w W1 w3 : World} {base c mb mcap shape : Nat} {msg : List Nat} {v : Value} {cw : List Nat} {pos ne : Int} {sym : Option (Nat × Nat)} {skip : Int} {B : Nat} {o : Obj}
    (h : Ctx W1 w3 base c mb mcap shape msg v cw pos ne sym skip) (hb : Below w.heap.size w W1) (ht : W1.heap[B]? = some o) :
    ∃ W0, Ctx W0 w3 base c mb mcap shape msg v cw pos ne sym skip ∧ Below w.heap.size w W0 ∧ W0.heap[B]? = some o := ⟨W1, h, hb, ht⟩
theorem next2 (k : Nat) : ((2 * k : Nat) : Int) + 2 = ((2 * (k + 1) : Nat) : Int) := by omega

theorem getSym_calls {w : World} {c : Nat} {v : Value} (h : w.cell? ⟨c, 7, none⟩ = some v) : Calls Tryz.prog 95 #[.pointer (some ⟨c, 0, none⟩)] w fun e w' => e = .returned v ∧ w' = w := by
  go_enter Tryz.func95, Tryz.ntmps95
  go_wp2
  go_ret
  exact ⟨rfl, rfl⟩
theorem getCap_calls {w : World} {b : Nat} {v : Value} (h : w.cell? ⟨b, 1, none⟩ = some v) : Calls Tryz.prog 96 #[.pointer (some ⟨b, 0, none⟩)] w fun e w' => e = .returned v ∧ w' = w := by
  go_enter Tryz.func96, Tryz.ntmps96
  go_wp2
  go_ret
  exact ⟨rfl, rfl⟩
theorem getCw_calls {w : World} {c : Nat} {v : Value} (h : w.cell? ⟨c, 4, none⟩ = some v) : Calls Tryz.prog 97 #[.pointer (some ⟨c, 0, none⟩)] w fun e w' => e = .returned v ∧ w' = w := by
  go_enter Tryz.func97, Tryz.ntmps97
  go_wp2
  go_ret
  exact ⟨rfl, rfl⟩

set_option maxRecDepth 100000 in
set_option maxHeartbeats 4000000 in
theorem high6 (w : World) : Calls Tryz.prog 46 #[.string s6, .int .i64 0, .pointer none, .pointer none] w (HighPost c6 w) := by
  have H126 := Lib.hid zz6
  have hno := noHead6
  have HNO := Lib.hid hno
  clear hno
  generalize s6 = s at *
  go_enter Tryz.func46, Tryz.ntmps46
  go_wp2_with (first | (go_at_call 82; refine (newC_calls (H126.out _) (by decide) (by decide) small6).mono ?_; rintro e w1 ⟨base, c, mb, mcap, v0, rfl, hc⟩; have HC := Lib.hid hc; clear hc) | (go_at_call 83; refine (setShape_calls HC.out 0).mono ?_; rintro e w2 ⟨rfl, hc⟩; have HC := Lib.hid hc; clear hc) | (go_at_call 84; refine (setSize_calls HC.out).mono ?_; rintro e w3 ⟨rfl, hc⟩; have HC := Lib.hid hc; clear hc) | (go_at_call 85; first | (refine (pre5_calls HNO.out).mono ?_; rintro e w4 ⟨rfl, rfl⟩) | (refine (pre6_calls HNO.out).mono ?_; rintro e w5 ⟨rfl, rfl⟩)) | (go_at_call 76; go_in) | (go_at_call 77; go_in) | (go_at_call 78; go_in) | (go_at_call 79; go_in) | (go_at_call 80; go_in) | (go_at_call 81; go_in))
  obtain ⟨W0, hC0, hB0, hT0⟩ := ctx_start HC.out ((((Below.refl _ _).alloc (Nat.le_refl _) _).alloc (by simp) _).alloc (by simp; omega) _) (new_last (n := w.heap.size + 1 + 1) (by simp) _)
  have HC0 := Lib.hid hC0
  have HB0 := Lib.hid hB0
  have HT0 := Lib.hid hT0
  clear hC0 hB0 hT0
  go_loopw [13] (fun m wr => m = .int .i64 0 ∧ ∃ k v, k ≤ 3 ∧ Hid (Ctx W0 wr base c mb mcap 0 d6 v (c6.take k) ((2 * k : Nat) : Int) (-1) none 0)) (fun _ wr => 6 - posAt wr c)
  case atStart => exact ⟨rfl, 0, _, by omega, HC0.out⟩
  case round =>
    obtain ⟨rfl, k, v, hk, hc⟩ := hrel
    have hm0 := hme
    have e1 := cell_blk ((hc.out.below.block _ (lt_of_some HT0.out)).trans HT0.out) 0
    by_cases hlt : k < 3
    · have hdt : decide (((2 * k : Nat) : Int) < (d6.length : Int) - 0) = true := by simp [d6]; omega
      have HP := Lib.hid (pair6 k hlt)
      have HCL := Lib.hid (show (c6.take k).length ≤ 5000 by simp [c6]; omega)
      have HN := Lib.hid (next2 k)
      have HPA := Lib.hid hc.out.posAt
      go_wp2_with (first | (go_at_call 89; refine (more_calls hc.out (by decide) (by omega) (by omega)).mono ?_; rintro e w6 ⟨rfl, n6, rfl⟩; rw [hdt]) | (go_at_call 169; refine (asciiPair_calls (hc.out.drewN _) (by decide) HCL.out (dig6 k hlt)).mono ?_; rintro e w7 ⟨rfl, v7, hc7⟩; have k6 := hc7.c6; rw [HP.out, HN.out] at hc7; have HC7 := Lib.hid hc7; have HQ := Lib.hid hc7.posAt; clear hc7) | (go_at_call 90; go_in))
      exact ⟨⟨rfl, k + 1, v7, by omega, HC7⟩, by rw [HPA.out, HQ.out]; omega⟩
    · obtain rfl : 3 = k := by omega
      obtain ⟨g, cap, hv⟩ := hc.out.own.slice (by decide)
      have h3 := hc.out
      rw [hv] at h3
      have H3 : Hid (Ctx W0 wr base c mb mcap 0 d6 (.slice (some ⟨g, 0, none⟩) 3 cap) c6 ((6 : Nat) : Int) (-1) none 0) := Lib.hid h3
      clear h3 hc hv e1
      have hdt : decide (((6 : Nat) : Int) < (d6.length : Int) - 0) = false := by decide
      have cnt : ∀ n, Calls Tryz.prog 92 #[.pointer (some ⟨c, 0, none⟩)] (wr.drewN n) fun e w' => e = .returned (.int .i64 3) ∧ w' = wr.drewN n := fun n => count_calls (H3.out.drewN n) (by decide)
      go_wp2_with (first | (go_at_call 89; refine (more_calls H3.out (by decide) (by omega) (by omega)).mono ?_; rintro e w6 ⟨rfl, n6, rfl⟩; rw [hdt]) | (go_at_call 92; refine (cnt _).mono ?_; rintro e w7 ⟨rfl, rfl⟩) | (go_at_call 93; refine (upd93_calls (H3.out.drewN _) (by omega) look6 (by decide)).mono ?_; rintro e w8 ⟨rfl, b8, hc8⟩; have k7 : w8.cell? ⟨c, 7, none⟩ = some (.pointer (some ⟨b8, 0, none⟩)) := hc8.c7; have k1 : w8.cell? ⟨b8, 1, none⟩ = some (.int .i64 3) := si_data (hc8.syms 0 b8 rfl); have k4 := hc8.c4; have f4 := frozen_blk hc8.blk 4; have HC8 := Lib.hid hc8; clear hc8) | (go_at_call 95; refine (getSym_calls k7).mono ?_; rintro e w9 ⟨rfl, rfl⟩) | (go_at_call 96; refine (getCap_calls k1).mono ?_; rintro e w10 ⟨rfl, rfl⟩) | (go_at_call 97; refine (getCw_calls k4).mono ?_; rintro e w11 ⟨rfl, rfl⟩))
      have hsame : Ctx W0 (w11.setCell ⟨c, 4, none⟩ (.slice (some ⟨g, 0, none⟩) 3 cap)) base c mb mcap 0 d6 (.slice (some ⟨g, 0, none⟩) 3 cap) c6 ((6 : Nat) : Int) (-1) (some (0, b8)) 0 := HC8.out.upd (k := 4) rfl
      have l4 := hsame.c4
      have HS := Lib.hid hsame
      clear hsame
      refine wp_loop_rounds 1 ?_
      rw [rounds_succ]
      go_wp2_with (go_at_call 97; refine (getCw_calls l4).mono ?_; rintro e w12 ⟨rfl, rfl⟩)
      go_ret2
      have hh := HS.out
      have hz := HB0.out.size
      have hw0 : W0.heap.size ≤ base := hh.b0
      exact ⟨_, rfl, hh.own.base (by omega), HB0.out.trans (hh.below.mono hz)⟩
end Go.Proofs.YtcnallabiffemaaGreatDoor
