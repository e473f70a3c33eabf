/- Digits. -/
import Derived.Test.YtcnallabiffemaaGreatDoorG3
set_option linter.unusedVariables false
set_option linter.unusedSimpArgs false
namespace Go.Proofs.YtcnallabiffemaaGreatDoor
open Go.RowKit

theorem isDig_calls (n : Nat) (w : World) : Calls Tryz.prog 178 #[.int .u8 n] w fun e w' => e = .returned (.bool (isDig n)) ∧ w' = w := by
  by_cases h1 : 48 ≤ n
  · by_cases h2 : n ≤ 57
    · have e : isDig n = true := by simp [isDig, h1, h2]
      rw [e]
      have h3 : (48 : Int) ≤ (n : Int) := by omega
      have h4 : (n : Int) ≤ 57 := by omega
      go_enter Tryz.func178, Tryz.ntmps178
      go_wp2
      go_ret
      exact ⟨rfl, rfl⟩
    · have e : isDig n = false := by simp [isDig, h2]
      rw [e]
      have h3 : (48 : Int) ≤ (n : Int) := by omega
      have h4 : ¬ (n : Int) ≤ 57 := by omega
      go_enter Tryz.func178, Tryz.ntmps178
      go_wp2
      go_ret
      exact ⟨rfl, rfl⟩
  · have e : isDig n = false := by simp [isDig, h1]
    rw [e]
    have h3 : ¬ (48 : Int) ≤ (n : Int) := by omega
    go_enter Tryz.func178, Tryz.ntmps178
    go_wp2
    go_ret
    exact ⟨rfl, rfl⟩

theorem isDigT_calls {n : Nat} (h : isDig n = true) (w : World) : Calls Tryz.prog 178 #[.int .u8 n] w fun e w' => e = .returned (.bool true) ∧ w' = w := h ▸ isDig_calls n w
theorem isDigF_calls {n : Nat} (h : isDig n = false) (w : World) : Calls Tryz.prog 178 #[.int .u8 n] w fun e w' => e = .returned (.bool false) ∧ w' = w := h ▸ isDig_calls n w

theorem digRun_drop {msg : List Nat} {p : Nat} (h : p < msg.length) : digRun (msg.drop p) = if isDig (msg.getD p 0) then digRun (msg.drop (p + 1)) + 1 else 0 := by
  rw [List.drop_eq_getElem_cons h, digRun, List.getD_eq_getElem?_getD, List.getElem?_eq_getElem h, Option.getD_some]
theorem digRun_end {msg : List Nat} {p : Nat} (h : msg.length ≤ p) : digRun (msg.drop p) = 0 := by rw [List.drop_eq_nil_of_le h]; rfl
theorem digRun_le (msg : List Nat) : digRun msg ≤ msg.length := by
  induction msg with
  | nil => simp [digRun]
  | cons n r ih => simp only [digRun]; split <;> simp <;> omega

set_option maxRecDepth 100000 in
set_option maxHeartbeats 2000000 in
theorem digs_calls {w : World} {mb mcap : Nat} {msg : List Nat} (h : Bytes w mb msg) (p : Nat) (hp : p ≤ msg.length) (hl : msg.length ≤ 100000) :
    Calls Tryz.prog 171 #[.slice (some ⟨mb, 0, none⟩) msg.length mcap, .int .i64 p] w fun e w' => e = .returned (.int .i64 (digRun (msg.drop p) : Nat)) ∧ w' = w := by
  have H := Lib.hid h
  clear h
  by_cases hlt : p < msg.length
  · have cx := H.out.2 p hlt
    obtain ⟨z, hz⟩ : ∃ z, z = msg.getD p 0 := ⟨_, rfl⟩
    rw [← hz] at cx
    have HZ := Lib.hid hz
    clear hz
    have hpi : (p : Int) < (msg.length : Int) := by omega
    go_enter Tryz.func171, Tryz.ntmps171
    go_wp2
    go_loopw [5, 7, 8] (fun c i ch wr => wr = w ∧ ∃ k z : Nat, p + k ≤ msg.length ∧ c = .int .i64 k ∧ i = .int .i64 ((p : Int) + k) ∧ ch = .int .u8 z ∧ Hid (p + k < msg.length → z = msg.getD (p + k) 0) ∧ Hid (digRun (msg.drop p) = k + digRun (msg.drop (p + k)))) (fun c _ _ _ => msg.length - (intOf c).toNat)
    case atStart => exact ⟨rfl, 0, z, by omega, rfl, by simp, rfl, fun _ => HZ.out, by simp [Hid]⟩
    case round =>
      clear HZ
      obtain ⟨rfl, k, z, hk, rfl, rfl, rfl, hzk, hd⟩ := hrel
      by_cases hk2 : p + k < msg.length
      · have hkr := digRun_drop hk2
        rw [← hzk.out hk2] at hkr
        by_cases hdz : isDig z = true
        · rw [if_pos hdz] at hkr
          have hd2 := Lib.hid (show digRun (msg.drop p) = (k + 1) + digRun (msg.drop (p + (k + 1))) by rw [hd.out, hkr]; rw [Nat.add_assoc p k 1]; omega)
          have hki : (p : Int) + (k : Int) < (msg.length : Int) := by omega
          clear hkr
          by_cases hk3 : p + (k + 1) < msg.length
          · have cx2 := H.out.2 (p + k + 1) hk3
            obtain ⟨z2, hz2⟩ : ∃ z2, z2 = msg.getD (p + k + 1) 0 := ⟨_, rfl⟩
            rw [← hz2] at cx2
            have HZ2 := Lib.hid hz2
            clear hz2
            have hki2 : (p : Int) + (k : Int) + 1 < (msg.length : Int) := by omega
            go_wp2_with (first | (go_at_call 178; refine (isDigT_calls hdz _).mono ?_; rintro e w' ⟨rfl, rfl⟩))
            exact ⟨⟨trivial, k + 1, z2, by omega, by go_num, by go_num, rfl, fun _ => HZ2.out, hd2⟩, by simp [intOf]; omega⟩
          · have hki2 : ¬ (p : Int) + (k : Int) + 1 < (msg.length : Int) := by omega
            go_wp2_with (first | (go_at_call 178; refine (isDigT_calls hdz _).mono ?_; rintro e w' ⟨rfl, rfl⟩))
            exact ⟨⟨trivial, k + 1, z, by omega, by go_num, by go_num, rfl, fun hh => absurd hh hk3, hd2⟩, by simp [intOf]; omega⟩
        · have hdz : isDig z = false := by simpa using hdz
          rw [hdz, if_neg (by simp)] at hkr
          have hd3 := hd.out
          rw [hkr] at hd3
          have HD3 := Lib.hid hd3
          clear hd3 hkr
          go_wp2_with (first | (go_at_call 178; refine (isDigF_calls hdz _).mono ?_; rintro e w' ⟨rfl, rfl⟩))
          go_ret
          exact ⟨by rw [HD3.out]; rfl, rfl⟩
      · have hd3 := hd.out
        rw [digRun_end (p := p + k) (by omega)] at hd3
        have HD3 := Lib.hid hd3
        clear hd3
        have hki : ¬ (p : Int) + (k : Int) < (msg.length : Int) := by omega
        cases hdz : isDig z
        · go_wp2_with (first | (go_at_call 178; refine (isDigF_calls hdz _).mono ?_; rintro e w' ⟨rfl, rfl⟩))
          go_ret
          exact ⟨by rw [HD3.out]; rfl, rfl⟩
        · go_wp2_with (first | (go_at_call 178; refine (isDigT_calls hdz _).mono ?_; rintro e w' ⟨rfl, rfl⟩))
          go_ret
          exact ⟨by rw [HD3.out]; rfl, rfl⟩
  · have hpi : ¬ (p : Int) < (msg.length : Int) := by omega
    have hd := Lib.hid (digRun_end (msg := msg) (p := p) (by omega))
    go_enter Tryz.func171, Tryz.ntmps171
    go_wp2
    go_ret
    exact ⟨by rw [hd.out]; rfl, rfl⟩
end Go.Proofs.YtcnallabiffemaaGreatDoor
