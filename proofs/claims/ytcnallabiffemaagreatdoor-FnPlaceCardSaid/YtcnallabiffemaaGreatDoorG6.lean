/- The ASCII encoder's step at two digits. -/
import Derived.Test.YtcnallabiffemaaGreatDoorG5
set_option linter.unusedVariables false
set_option linter.unusedSimpArgs false
namespace Go.Proofs.YtcnallabiffemaaGreatDoor
open Go.RowKit

section
variable {w0 w : World} {base c mb mcap shape : Nat} {msg : List Nat} {v : Value} {cw : List Nat} {pos ne : Int} {sym : Option (Nat × Nat)} {skip : Int}

def pairOf (a b : Nat) : Nat := (a - 48) * 10 + (b - 48) + 130
theorem digRun_two {msg : List Nat} {p : Nat} (h : 2 ≤ digRun (msg.drop p)) : p + 1 < msg.length ∧ isDig (msg.getD p 0) = true ∧ isDig (msg.getD (p + 1) 0) = true := by
  rcases Nat.lt_or_ge p msg.length with h1 | h1
  · rw [digRun_drop h1] at h
    by_cases d1 : isDig (msg.getD p 0) = true
    · rw [if_pos d1] at h
      rcases Nat.lt_or_ge (p + 1) msg.length with h2 | h2
      · rw [digRun_drop h2] at h
        by_cases d2 : isDig (msg.getD (p + 1) 0) = true
        · exact ⟨h2, d1, d2⟩
        · rw [if_neg d2] at h; omega
      · rw [digRun_end h2] at h; omega
    · rw [if_neg d1] at h; omega
  · rw [digRun_end h1] at h; omega

set_option maxRecDepth 100000 in
set_option maxHeartbeats 4000000 in
theorem asciiPair_calls {p : Nat} (h : Ctx w0 w base c mb mcap shape msg v cw p ne sym skip) (hm : msg.length ≤ 100000) (hc : cw.length ≤ 5000) (hd : 2 ≤ digRun (msg.drop p)) :
    Calls Tryz.prog 169 #[.agg #[], .pointer (some ⟨c, 0, none⟩)] w fun e w' => e = .returned .nilIface ∧ ∃ v', Ctx w0 w' base c mb mcap shape msg v' (cw ++ [pairOf (msg.getD p 0) (msg.getD (p + 1) 0)]) (p + 2) ne sym skip := by
  obtain ⟨hp, d1, d2⟩ := digRun_two hd
  obtain ⟨a, hqa⟩ : ∃ a, a = msg.getD p 0 := ⟨_, rfl⟩
  obtain ⟨b, hqb⟩ : ∃ b, b = msg.getD (p + 1) 0 := ⟨_, rfl⟩
  rw [← hqa] at d1 ⊢
  rw [← hqb] at d2 ⊢
  have QA := Lib.hid hqa
  have QB := Lib.hid hqb
  have H := Lib.hid h
  clear h hqa hqb
  have hd' : (2 : Int) ≤ ((digRun (msg.drop p) : Nat) : Int) := by omega
  have hpi : (p : Int) + 1 < (msg.length : Int) := by omega
  have hpi0 : (p : Int) < (msg.length : Int) := by omega
  have hpw : IntKind.i64.wrap ((p : Int) + 1) = (p : Int) + 1 := IntWalk.i64_in _ (by omega)
  have hp0 : (0 : Int) ≤ (p : Int) + 1 := by omega
  have hpt : ((p : Int) + 1).toNat = p + 1 := by omega
  go_enter Tryz.func169, Tryz.ntmps169
  go_wp2
  have HA := Lib.hid (H.out.alloc (.cells #[] 158))
  generalize w.alloc (.cells #[] 158) = wa at *
  have k5 := HA.out.c5
  have x0 := HA.out.byt.2 p (by omega)
  have x1 := HA.out.byt.2 (p + 1) hp
  rw [← QA.out] at x0
  rw [← QB.out] at x1
  have dg := fun n => digs_calls (mcap := mcap) (HA.out.byt.drewN n) p (by omega) hm
  generalize digRun (msg.drop p) = dr at *
  have pr := pair_calls d1 d2
  have gm := fun n => getMsg_calls (HA.out.drewN n)
  clear d1 d2
  go_quiet (first | (go_at_call 172; exact Calls.quiet_of_same (gm _)) | (go_at_call 171; exact Calls.quiet_of_same (dg _)))
  go_wp2
  have HB := Lib.hid (HA.out.drewN nq)
  have y0 : (wa.drewN nq).cell? ⟨mb, p, none⟩ = some (.int .u8 (a : Int)) := x0
  have y1 : (wa.drewN nq).cell? ⟨mb, p + 1, none⟩ = some (.int .u8 (b : Int)) := x1
  clear x0 x1 k5 dg gm
  generalize wa.drewN nq = wb at *
  have k5 := HB.out.c5
  have gm := fun n => getMsg_calls (HB.out.drewN n)
  go_quiet (first | (go_at_call 172; exact Calls.quiet_of_same (gm _)) | (go_at_call 173; exact Calls.quiet_of_same (pr _)))
  go_wp2_with (first | (go_at_call 87; refine (putC_calls (HB.out.drewN _) (pairOf a b) _ rfl hc).mono ?_; rintro e w2 ⟨rfl, v2, hc2⟩; have l5 := hc2.c5; have f5 := frozen_blk hc2.blk 5; have S := Lib.hid (hc2.setPos ((p : Int) + 2)); clear hc2))
  go_ret
  exact ⟨rfl, _, S.out⟩
end
end Go.Proofs.YtcnallabiffemaaGreatDoor
