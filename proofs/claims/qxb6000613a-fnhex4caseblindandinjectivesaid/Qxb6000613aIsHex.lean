/-
  isHexByte of the laws: is a hex digit as a plain function, and the walk that shows it. By an AI agent. No person has read it.
-/
import Derived.Test.Qxb6000613aHex
namespace Go.Proofs.Qxb6000613a
open Go.RowKit

def lo (k : Nat) : Int := if k < 10 then 48 + k else 87 + k
def up (k : Nat) : Int := if k < 10 then 48 + k else 55 + k
def isHexB (c : Int) : Bool := decide (0 ≤ hv c)
theorem lowTab : ∀ (n : Nat) (h : n < ({ data := #[48, 49, 50, 51, 52, 53, 54, 55, 56, 57, 97, 98, 99, 100, 101, 102] } : ByteArray).size), (((({ data := #[48, 49, 50, 51, 52, 53, 54, 55, 56, 57, 97, 98, 99, 100, 101, 102] } : ByteArray)[n]'h).toNat : Nat) : Int) = lo n := by
  intro n h
  have h' : n < 16 := h
  match n, h' with
  | 0, _ => rfl
  | 1, _ => rfl
  | 2, _ => rfl
  | 3, _ => rfl
  | 4, _ => rfl
  | 5, _ => rfl
  | 6, _ => rfl
  | 7, _ => rfl
  | 8, _ => rfl
  | 9, _ => rfl
  | 10, _ => rfl
  | 11, _ => rfl
  | 12, _ => rfl
  | 13, _ => rfl
  | 14, _ => rfl
  | 15, _ => rfl
  | n + 16, hn => exact absurd hn (by omega)
theorem upTab : ∀ (n : Nat) (h : n < ({ data := #[48, 49, 50, 51, 52, 53, 54, 55, 56, 57, 65, 66, 67, 68, 69, 70] } : ByteArray).size), (((({ data := #[48, 49, 50, 51, 52, 53, 54, 55, 56, 57, 65, 66, 67, 68, 69, 70] } : ByteArray)[n]'h).toNat : Nat) : Int) = up n := by
  intro n h
  have h' : n < 16 := h
  match n, h' with
  | 0, _ => rfl
  | 1, _ => rfl
  | 2, _ => rfl
  | 3, _ => rfl
  | 4, _ => rfl
  | 5, _ => rfl
  | 6, _ => rfl
  | 7, _ => rfl
  | 8, _ => rfl
  | 9, _ => rfl
  | 10, _ => rfl
  | 11, _ => rfl
  | 12, _ => rfl
  | 13, _ => rfl
  | 14, _ => rfl
  | 15, _ => rfl
  | n + 16, hn => exact absurd hn (by omega)
theorem hv_lo {k : Nat} (h : k < 16) : hv (lo k) = k := by
  unfold hv lo; repeat' split
  all_goals omega
theorem hv_up {k : Nat} (h : k < 16) : hv (up k) = k := by
  unfold hv up; repeat' split
  all_goals omega
theorem isHexB_not {c : Int} (h : ∀ j, j < 16 → lo j ≠ c ∧ up j ≠ c) : isHexB c = false := by
  unfold isHexB
  rw [decide_eq_false_iff_not]
  intro h0
  have := h (hv c).toNat (by have := hv_bd c; omega)
  revert this h0
  unfold lo up hv
  repeat' split
  all_goals omega
theorem isHexB_lo {k : Nat} (h : k < 16) : isHexB (lo k) = true := by unfold isHexB; rw [hv_lo h]; simp
theorem isHexB_up {k : Nat} (h : k < 16) : isHexB (up k) = true := by unfold isHexB; rw [hv_up h]; simp
theorem ret_bool {a b : Bool} (h : a = b) : Ending.returned (.bool a) = .returned (.bool b) := by rw [h]

set_option maxHeartbeats 400000 in
theorem isHex_any (c : Int) (w : World) :
    Calls Try.prog 14 #[.int .u8 c] w fun e w' => e = .returned (.bool (isHexB c)) ∧ w' = w := by
  have hl := lowTab
  have hu := upTab
  go_enter Try.func14, Try.ntmps14
  go_wp2
  go_loop [3] (fun i => ∃ k : Nat, k ≤ 16 ∧ i = .int .i64 k ∧ Hid (∀ j, j < k → lo j ≠ c ∧ up j ≠ c)) (fun i => 16 - (intOf i).toNat)
  case atStart => exact ⟨0, by omega, rfl, fun j hj => by omega⟩
  case round =>
    obtain ⟨k, hk, rfl, hno⟩ := hrel
    by_cases hlt : k < 16
    · by_cases c1 : lo k = c
      · have e1 : (lo k == c) = true := by simp [c1]
        have HC : Hid (lo k = c) := c1
        clear c1
        go_wp2
        go_ret
        exact ⟨ret_bool (by rw [← HC.out]; exact (isHexB_lo hlt).symm), rfl⟩
      · have e1 : (lo k == c) = false := by simp [c1]
        by_cases c2 : up k = c
        · have e2 : (up k == c) = true := by simp [c2]
          have HC : Hid (up k = c) := c2
          clear c2 c1
          go_wp2
          go_ret
          exact ⟨ret_bool (by rw [← HC.out]; exact (isHexB_up hlt).symm), rfl⟩
        · have e2 : (up k == c) = false := by simp [c2]
          have HC : Hid (lo k ≠ c ∧ up k ≠ c) := ⟨c1, c2⟩
          clear c2 c1
          go_wp2
          go_round
          case rel =>
            refine ⟨k + 1, by omega, by go_num, fun j hj => ?_⟩
            by_cases e : j = k
            · rw [e]; exact HC.out
            · exact hno.out j (by omega)
          case measure => simp [intOf]; omega
    · have e : k = 16 := by omega
      subst e
      go_wp2
      go_ret
      exact ⟨ret_bool (isHexB_not hno.out).symm, rfl⟩
end Go.Proofs.Qxb6000613a
