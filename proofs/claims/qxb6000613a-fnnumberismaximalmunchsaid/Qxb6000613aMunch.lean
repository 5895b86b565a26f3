/-
  FnNumberIsMaximalMunch: the walk of the long way. By an AI agent. No person has read it.
-/
import Derived.Test.Qxb6000613aAuto
namespace Go.Proofs.Qxb6000613a
open Go.RowKit

set_option maxHeartbeats 1000000 in
theorem munch_walk (s : ByteArray) (p : Nat) (w : World) (hs : s.size ≤ 1048576) (hp : p ≤ s.size) :
    Calls Try.prog 6 #[.string s, .int .i64 p] w fun e w' => e = .returned (.bool true) ∧ Below w.heap.size w w' := by
  go_enter Try.func6, Try.ntmps6
  go_wp2_with (first | (go_at_call 18; refine (zznumber_any s p _ (by omega) hp).mono ?_; rintro e w1 ⟨ok, r, rfl, hr, b1, X1, X2⟩) | go_in)
  go_loop [7, 8] (fun v i => ∃ (t : Int) (q : Nat), v = .int .i64 t ∧ i = .int .i64 q ∧ 0 ≤ t ∧ t ≤ 8 ∧ q ≤ s.size ∧ Hid (R s 0 p = R s t q)) (fun _ i => s.size - (intOf i).toNat)
  case atStart => exact ⟨0, p, rfl, rfl, by omega, by omega, hp, rfl⟩
  case round =>
    obtain ⟨t, q, rfl, rfl, ht0, ht8, hq, HR⟩ := hrel
    have hb := get_bt s
    by_cases hlt : q < s.size
    · have hsb := stepN_bd t (bt s q)
      by_cases hst : 0 ≤ stepN t (bt s q)
      · have HN : Hid (R s 0 p = R s (stepN t (bt s q)) (q + 1)) := by
          show _ = _
          rw [HR.out]; exact R_go rfl hst
        go_wp2_with (go_at_call 19; refine (numStep_any t _ _ ⟨ht0, ht8⟩).mono ?_; rintro e w' ⟨rfl, rfl⟩)
        go_round
        case rel => exact ⟨_, q + 1, rfl, by go_num, by omega, by omega, by omega, HN⟩
        case measure => simp [intOf]; omega
      · have hst' : stepN t (bt s q) < 0 := by omega
        have HE : Hid (R s 0 p = (t, q)) := by
          show _ = _
          rw [HR.out]; exact R_stop hst'
        have e1 : okB t = ok := by rw [X1.out, HE.out]
        have X3 : Hid (ok = true → q = r) := fun h => by have := X2.out h; rw [HE.out] at this; exact this
        cases ok with
        | true =>
          have e2 : ((r : Int) != (q : Int)) = false := by simp [X3.out rfl]
          clear hst
          go_wp2_with (first | (go_at_call 19; refine (numStep_any t _ _ ⟨ht0, ht8⟩).mono ?_; rintro e w' ⟨rfl, rfl⟩) | (go_at_call 20; refine (numAcc_any t _).mono ?_; rintro e w' ⟨rfl, rfl⟩))
          go_ret
          exact ⟨rfl, b1⟩
        | false =>
          clear hst
          go_wp2_with (first | (go_at_call 19; refine (numStep_any t _ _ ⟨ht0, ht8⟩).mono ?_; rintro e w' ⟨rfl, rfl⟩) | (go_at_call 20; refine (numAcc_any t _).mono ?_; rintro e w' ⟨rfl, rfl⟩))
          go_ret
          exact ⟨rfl, b1⟩
    · have HE : Hid (R s 0 p = (t, q)) := by
        show _ = _
        rw [HR.out]; exact R_out (by omega)
      have e1 : okB t = ok := by rw [X1.out, HE.out]
      have X3 : Hid (ok = true → q = r) := fun h => by have := X2.out h; rw [HE.out] at this; exact this
      cases ok with
      | true =>
        have e2 : ((r : Int) != (q : Int)) = false := by simp [X3.out rfl]
        go_wp2_with (first | (go_at_call 20; refine (numAcc_any t _).mono ?_; rintro e w' ⟨rfl, rfl⟩))
        go_ret
        exact ⟨rfl, b1⟩
      | false =>
        go_wp2_with (first | (go_at_call 20; refine (numAcc_any t _).mono ?_; rintro e w' ⟨rfl, rfl⟩))
        go_ret
        exact ⟨rfl, b1⟩
end Go.Proofs.Qxb6000613a
