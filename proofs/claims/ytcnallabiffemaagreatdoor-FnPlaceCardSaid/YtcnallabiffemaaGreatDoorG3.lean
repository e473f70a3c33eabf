/- The context's methods. -/
import Derived.Test.YtcnallabiffemaaGreatDoorG2
set_option linter.unusedVariables false
set_option linter.unusedSimpArgs false
namespace Go.Proofs.YtcnallabiffemaaGreatDoor
open Go.RowKit

section
variable {w0 w : World} {base c mb mcap shape : Nat} {msg : List Nat} {v : Value} {cw : List Nat} {pos ne : Int} {sym : Option (Nat × Nat)} {skip : Int}

theorem Own.slice {w : World} {base : Nat} {k : IntKind} {T : TypeId} {v : Value} {xs : List Nat} (h : Own w base k T v xs) (hl : 0 < xs.length) : ∃ g cap, v = .slice (some ⟨g, 0, none⟩) xs.length cap := by
  rcases h.look with ⟨_, hn⟩ | ⟨g, cap, rest, hv, _⟩
  · rw [hn] at hl; exact absurd hl (by decide)
  · exact ⟨g, cap, hv⟩

set_option maxRecDepth 100000 in
set_option maxHeartbeats 2000000 in
/-- one codeword more -/
theorem putC_calls (h : Ctx w0 w base c mb mcap shape msg v cw pos ne sym skip) (n : Nat) (x : Int) (hx : x = (n : Int)) (hl : cw.length ≤ 5000) :
    Calls Tryz.prog 87 #[.pointer (some ⟨c, 0, none⟩), .int .u8 x] w fun e w' => e = .returned (.tuple #[]) ∧ ∃ v', Ctx w0 w' base c mb mcap shape msg v' (cw ++ [n]) pos ne sym skip := by
  subst hx
  have c4 := h.c4
  have H := Lib.hid h
  clear h
  go_enter Tryz.func87, Tryz.ntmps87
  go_wp2_with (first | (refine app49 rfl (.tmp 8) (.tmp 10) rfl base v cw rfl (H.out.own.alloc _) w.heap.size 1 1 [n] rfl rfl (Bytes.one rfl) (by simp; omega) (by have := H.out.b3; simp; omega) ?_; intro v' w' ho hg hne; obtain ⟨gx, capx, rfl⟩ := ho.slice (by simp); clear hne; have hA := H.out.alloc (.cells #[.int .u8 (n : Int)] 5); have hbk := (hg.block c (lt_of_some hA.blk) (fun e => hA.ne_c _ e.symm rfl)).trans hA.blk; have k4 : w'.cell? ⟨c, 4, none⟩ = some v := (cell_blk hbk 4).trans rfl; have f4 := frozen_blk hbk 4; have S := Lib.hid (hA.setCw hg (fun g e => ⟨(hA.own.lt g e).1, hA.ne_c g e, fun i b e2 => (hA.ne_s e2).2 g e⟩) ho); clear hA hbk))
  go_end0
  have S := S.out
  simp only [List.length_append, List.length_cons, List.length_nil, Nat.zero_add] at S
  exact ⟨rfl, _, S⟩

theorem getMsg_calls (h : Ctx w0 w base c mb mcap shape msg v cw pos ne sym skip) :
    Calls Tryz.prog 172 #[.pointer (some ⟨c, 0, none⟩)] w fun e w' => e = .returned (.slice (some ⟨mb, 0, none⟩) msg.length mcap) ∧ w' = w := by
  have k := h.c0
  clear h
  go_enter Tryz.func172, Tryz.ntmps172
  go_wp2
  go_ret
  exact ⟨rfl, rfl⟩

theorem total_calls (h : Ctx w0 w base c mb mcap shape msg v cw pos ne sym skip) (hm : msg.length ≤ 100000) (hs0 : 0 ≤ skip) (hs1 : skip ≤ 100000) :
    Calls Tryz.prog 129 #[.pointer (some ⟨c, 0, none⟩)] w fun e w' => e = .returned (.int .i64 ((msg.length : Int) - skip)) ∧ ∃ m, w' = w.drewN m := by
  have k := h.c0
  have k8 := h.c8
  clear h
  go_enter Tryz.func129, Tryz.ntmps129
  go_wp2
  go_quiet (fail)
  go_wp2
  go_ret
  exact ⟨rfl, _, rfl⟩

theorem more_calls (h : Ctx w0 w base c mb mcap shape msg v cw pos ne sym skip) (hm : msg.length ≤ 100000) (hs0 : 0 ≤ skip) (hs1 : skip ≤ 100000) :
    Calls Tryz.prog 89 #[.pointer (some ⟨c, 0, none⟩)] w fun e w' => e = .returned (.bool (decide (pos < (msg.length : Int) - skip))) ∧ ∃ m, w' = w.drewN m := by
  have k5 := h.c5
  have H := Lib.hid h
  clear h
  go_enter Tryz.func89, Tryz.ntmps89
  go_wp2
  go_quiet ((go_at_call 129; exact Calls.quiet_of (total_calls (H.out.drewN _) hm hs0 hs1)))
  go_wp2
  go_ret
  exact ⟨rfl, _, rfl⟩

theorem cur_calls {p : Nat} (h : Ctx w0 w base c mb mcap shape msg v cw p ne sym skip) (hm : msg.length ≤ 100000) (hp : p < msg.length) :
    Calls Tryz.prog 174 #[.pointer (some ⟨c, 0, none⟩)] w fun e w' => e = .returned (.int .u8 ((msg.getD p 0 : Nat) : Int)) ∧ ∃ m, w' = w.drewN m := by
  have k0 := h.c0
  have k5 := h.c5
  have cx := h.byt.2 p hp
  have hpi : (p : Int) < (msg.length : Int) := by omega
  clear h
  generalize ((msg.getD p 0 : Nat) : Int) = z at *
  go_enter Tryz.func174, Tryz.ntmps174
  go_wp2
  go_quiet (fail)
  go_wp2
  go_ret
  exact ⟨rfl, _, rfl⟩

/-- how many digits stand in a row -/
def isDig (n : Nat) : Bool := decide (48 ≤ n) && decide (n ≤ 57)
def digRun : List Nat → Nat
  | [] => 0
  | n :: r => if isDig n then digRun r + 1 else 0
end
end Go.Proofs.YtcnallabiffemaaGreatDoor
