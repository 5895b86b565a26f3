/-
  ZZNumber, numStep, numAccepting: the walks. By an AI agent. No person has read it.
-/
import Derived.Test.Qxb6000613aNumber
import Derived.ChangeOld
namespace Go.Proofs.Qxb6000613a
open Go.RowKit

theorem ret_i64 {a b : Int} (h : a = b) : Ending.returned (.int .i64 a) = .returned (.int .i64 b) := by rw [h]
theorem ret_bool' {a b : Bool} (h : a = b) : Ending.returned (.bool a) = .returned (.bool b) := by rw [h]

theorem sc_new (s : ByteArray) (p : Nat) (w : World) : Sc w.heap.size s p (w.alloc (.cells #[.string s, .int .i64 p, .int .i64 0] 46)) :=
  ⟨by simp, by simp, by simp, by simp⟩

set_option maxHeartbeats 1000000 in
theorem zznumber_any (s : ByteArray) (p : Nat) (w : World) (hs : s.size ≤ 2097152) (hp : p ≤ s.size) :
    Calls Try.prog 18 #[.string s, .int .i64 p] w fun e w' => ∃ (ok : Bool) (q : Nat), e = .returned (.tuple #[.bool ok, .int .i64 q]) ∧ q ≤ s.size ∧ Below w.heap.size w w' ∧ Hid (ok = okB (R s 0 p).1) ∧ Hid (ok = true → (R s 0 p).2 = q) := by
  have h0 := sc_new s p w
  go_enter Try.func18, Try.ntmps18
  go_wp2_with (go_at_call 30; refine (number_any _ s p _ h0 hs hp).mono ?_; rintro e w2 ⟨ok, q, rfl, hq, h2, b2, H1, H2⟩; have g2 := h2.p; have X1 : Hid (ok = okB (R s 0 p).1) := H1; have X2 : Hid (ok = true → (R s 0 p).2 = q) := H2; clear H1 H2)
  go_quiet (fail)
  go_wp2
  go_ret2
  exact ⟨ok, q, rfl, hq, below_drewN (((Below.refl _ _).alloc (Nat.le_refl _) _).trans b2) _, X1, X2⟩

theorem beqF {c d : Int} (h : c ≠ d) : (c == d) = false := by simp [h]
set_option maxHeartbeats 1000000 in
theorem numStep_lit (t c : Int) (w : World) (ht : 0 ≤ t ∧ t ≤ 8) (hc : c = 43 ∨ c = 45 ∨ c = 46 ∨ c = 48 ∨ c = 69 ∨ c = 101) :
    Calls Try.prog 19 #[.int .i64 t, .int .u8 c] w fun e w' => e = .returned (.int .i64 (stepN t c)) ∧ w' = w := by
  rcases hc with rfl | rfl | rfl | rfl | rfl | rfl
  all_goals
    rcases (show t = 0 ∨ t = 1 ∨ t = 2 ∨ t = 3 ∨ t = 4 ∨ t = 5 ∨ t = 6 ∨ t = 7 ∨ t = 8 by omega) with rfl | rfl | rfl | rfl | rfl | rfl | rfl | rfl | rfl
    all_goals
      go_enter Try.func19, Try.ntmps19
      go_wp2
      go_ret
      exact ⟨ret_i64 rfl, rfl⟩
set_option maxHeartbeats 1000000 in
theorem numStep_other (t c : Int) (w : World) (ht : 0 ≤ t ∧ t ≤ 8) (hc : (49 ≤ c ∧ c ≤ 57) ∨ (c < 48 ∧ c ≠ 43 ∧ c ≠ 45 ∧ c ≠ 46) ∨ (57 < c ∧ c ≠ 69 ∧ c ≠ 101)) :
    Calls Try.prog 19 #[.int .i64 t, .int .u8 c] w fun e w' => e = .returned (.int .i64 (stepN t c)) ∧ w' = w := by
  have f43 : (c == 43) = false := beqF (by omega)
  have f45 : (c == 45) = false := beqF (by omega)
  have f46 : (c == 46) = false := beqF (by omega)
  have f48 : (c == 48) = false := beqF (by omega)
  have f69 : (c == 69) = false := beqF (by omega)
  have f101 : (c == 101) = false := beqF (by omega)
  rcases hc with h | h | h
  all_goals
    rcases (show t = 0 ∨ t = 1 ∨ t = 2 ∨ t = 3 ∨ t = 4 ∨ t = 5 ∨ t = 6 ∨ t = 7 ∨ t = 8 by omega) with rfl | rfl | rfl | rfl | rfl | rfl | rfl | rfl | rfl
    all_goals
      go_enter Try.func19, Try.ntmps19
      go_wp2
      go_ret
      refine ⟨ret_i64 ?_, rfl⟩
      first
        | rfl
        | (rw [step0]; repeat' split
           all_goals omega)
        | (rw [step1]; repeat' split
           all_goals omega)
        | (rw [step2]; repeat' split
           all_goals omega)
        | (rw [step3]; repeat' split
           all_goals omega)
        | (rw [step4]; repeat' split
           all_goals omega)
        | (rw [step5]; repeat' split
           all_goals omega)
        | (rw [step6]; repeat' split
           all_goals omega)
        | (rw [step7]; repeat' split
           all_goals omega)
        | (rw [step8]; repeat' split
           all_goals omega)
theorem numStep_any (t c : Int) (w : World) (ht : 0 ≤ t ∧ t ≤ 8) :
    Calls Try.prog 19 #[.int .i64 t, .int .u8 c] w fun e w' => e = .returned (.int .i64 (stepN t c)) ∧ w' = w := by
  rcases (show (c = 43 ∨ c = 45 ∨ c = 46 ∨ c = 48 ∨ c = 69 ∨ c = 101) ∨ ((49 ≤ c ∧ c ≤ 57) ∨ (c < 48 ∧ c ≠ 43 ∧ c ≠ 45 ∧ c ≠ 46) ∨ (57 < c ∧ c ≠ 69 ∧ c ≠ 101)) by omega) with h | h
  · exact numStep_lit t c w ht h
  · exact numStep_other t c w ht h
set_option maxHeartbeats 1000000 in
theorem numAcc_any (t : Int) (w : World) :
    Calls Try.prog 20 #[.int .i64 t] w fun e w' => e = .returned (.bool (okB t)) ∧ w' = w := by
  rcases (show t = 2 ∨ t = 3 ∨ t = 5 ∨ t = 8 ∨ (t ≠ 2 ∧ t ≠ 3 ∧ t ≠ 5 ∧ t ≠ 8) by omega) with rfl | rfl | rfl | rfl | h
  · go_enter Try.func20, Try.ntmps20
    go_wp2
    go_ret
    exact ⟨rfl, rfl⟩
  · go_enter Try.func20, Try.ntmps20
    go_wp2
    go_ret
    exact ⟨rfl, rfl⟩
  · go_enter Try.func20, Try.ntmps20
    go_wp2
    go_ret
    exact ⟨rfl, rfl⟩
  · go_enter Try.func20, Try.ntmps20
    go_wp2
    go_ret
    exact ⟨rfl, rfl⟩
  · have e2 : (t == 2) = false := by simp [h.1]
    have e3 : (t == 3) = false := by simp [h.2.1]
    have e5 : (t == 5) = false := by simp [h.2.2.1]
    have e8 : (t == 8) = false := by simp [h.2.2.2]
    have HO : Hid (okB t = false) := by
      show okB t = false
      unfold okB; simp; omega
    clear h
    go_enter Try.func20, Try.ntmps20
    go_wp2
    go_ret
    exact ⟨ret_bool' HO.out.symm, rfl⟩
end Go.Proofs.Qxb6000613a
