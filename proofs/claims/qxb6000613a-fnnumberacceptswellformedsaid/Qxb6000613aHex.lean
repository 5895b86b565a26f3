/-
  hex4 of package attestor as a plain function ('hx'), and the walk that shows it. By an AI agent. No person has read it.
-/
import Derived.Test.Qxb6000613aRows
import Derived.WalkKit
import Derived.ProofKit
namespace Go.Proofs.Qxb6000613a
open Go.RowKit

/-- Byte k of a string, as a number; 0 behind its end. -/
def bt (s : ByteArray) (k : Nat) : Int := if h : k < s.size then ((s[k]'h).toNat : Int) else 0
theorem get_bt (s : ByteArray) : ∀ (n : Nat) (h : n < s.size), ((s[n]'h).toNat : Int) = bt s n := fun n h => by unfold bt; rw [dif_pos h]
theorem bt_bd (s : ByteArray) (k : Nat) : 0 ≤ bt s k ∧ bt s k ≤ 255 := by
  unfold bt; split
  · have := (s[k]).toNat_lt; omega
  · omega
/-- The value of a hex digit; -1 for any other byte. -/
def hv (c : Int) : Int := if 48 ≤ c ∧ c ≤ 57 then c - 48 else if 97 ≤ c ∧ c ≤ 102 then c - 87 else if 65 ≤ c ∧ c ≤ 70 then c - 55 else -1
theorem hv_bd (c : Int) : -1 ≤ hv c ∧ hv c ≤ 15 := by unfold hv; repeat' split
                                                      all_goals omega
/-- What the first k digits write. -/
def acc (s : ByteArray) : Nat → Int
  | 0 => 0
  | k + 1 => 16 * acc s k + hv (bt s k)
def okTo (s : ByteArray) (k : Nat) : Prop := ∀ j, j < k → 0 ≤ hv (bt s j)
/-- hex4. -/
def hx (s : ByteArray) : Int := if 4 ≤ s.size ∧ 0 ≤ hv (bt s 0) ∧ 0 ≤ hv (bt s 1) ∧ 0 ≤ hv (bt s 2) ∧ 0 ≤ hv (bt s 3) then acc s 4 else -1

theorem acc_bd (s : ByteArray) : ∀ k, okTo s k → 0 ≤ acc s k ∧ acc s k < 16 ^ k
  | 0, _ => ⟨Int.le_refl _, by simp [acc]⟩
  | k + 1, h => by
    have ih := acc_bd s k (fun j hj => h j (by omega))
    have h1 := h k (by omega)
    have h2 := hv_bd (bt s k)
    have e : (16 : Int) ^ (k + 1) = 16 ^ k * 16 := Int.pow_succ 16 k
    simp only [acc]
    rw [e]
    omega
theorem acc_small (s : ByteArray) (k : Nat) (hk : k < 4) (h : okTo s k) : 0 ≤ acc s k ∧ acc s k ≤ 4095 := by
  have := acc_bd s k h
  obtain rfl | rfl | rfl | rfl : k = 0 ∨ k = 1 ∨ k = 2 ∨ k = 3 := by omega
  all_goals simp at this; omega
theorem okTo_succ {s : ByteArray} {k : Nat} (h : okTo s k) (h0 : 0 ≤ hv (bt s k)) : okTo s (k + 1) := fun j hj => by
  by_cases e : j = k
  · rw [e]; exact h0
  · exact h j (by omega)
theorem or_nat (a b : Nat) (ha : a ≤ 4095) (hb : b ≤ 15) : bits .or .i32 ((a * 16 : Nat) : Int) (b : Int) = ((a * 16 + b : Nat) : Int) := by
  show IntKind.i32.wrap ((BitVec.ofInt 32 ((a * 16 : Nat) : Int) ||| BitVec.ofInt 32 (b : Int)).toNat : Int) = _
  rw [BitVec.toNat_or, ofInt_u32 _ (by omega), ofInt_u32 b (by omega), nat_join 4 (a * 16) b (by omega) (by omega), IntKind.wrap_i32]
  omega
theorem or_step {s : ByteArray} {k : Nat} {x : Int} (hk : k < 4) (h : okTo s k) (e : hv (bt s k) = x) (h0 : 0 ≤ x) :
    bits .or .i32 (wrap32 (acc s k * 16)) x = acc s (k + 1) := by
  have hb := acc_small s k hk h
  have hx := hv_bd (bt s k)
  have ew : wrap32 (acc s k * 16) = acc s k * 16 := by unfold wrap32; omega
  rw [ew]
  simp only [acc]
  rw [e]
  rw [e] at hx
  generalize acc s k = a at *
  obtain ⟨A, rfl⟩ := Int.eq_ofNat_of_zero_le hb.1
  obtain ⟨X, rfl⟩ := Int.eq_ofNat_of_zero_le h0
  have := or_nat A X (by omega) (by omega)
  rw [show (A : Int) * 16 = ((A * 16 : Nat) : Int) by omega, this]
  omega
theorem hx_good {s : ByteArray} (h4 : 4 ≤ s.size) (h : okTo s 4) : hx s = acc s 4 := by
  unfold hx; rw [if_pos ⟨h4, h 0 (by omega), h 1 (by omega), h 2 (by omega), h 3 (by omega)⟩]
theorem hx_bad {s : ByteArray} {k : Nat} (hk : k < 4) (h : hv (bt s k) < 0) : hx s = -1 := by
  unfold hx; rw [if_neg]
  rintro ⟨_, h0, h1, h2, h3⟩
  obtain rfl | rfl | rfl | rfl : k = 0 ∨ k = 1 ∨ k = 2 ∨ k = 3 := by omega
  all_goals omega
theorem hx_short {s : ByteArray} (h : s.size < 4) : hx s = -1 := by
  unfold hx; rw [if_neg]; omega
theorem ret_i32 {a b : Int} (h : a = b) : Ending.returned (.int .i32 a) = .returned (.int .i32 b) := by rw [h]
theorem val_i32 {a b : Int} (h : a = b) : Value.int .i32 a = .int .i32 b := by rw [h]

set_option maxHeartbeats 400000 in
theorem hex4_any (s : ByteArray) (w : World) (hs : s.size ≤ maxLen) :
    Calls Try.prog 29 #[.string s] w fun e w' => e = .returned (.int .i32 (hx s)) ∧ w' = w := by
  unfold maxLen at hs
  by_cases h4 : 4 ≤ s.size
  · go_enter Try.func29, Try.ntmps29
    go_wp2
    go_loop [3, 9] (fun r i => ∃ k : Nat, k ≤ 4 ∧ i = .int .i64 k ∧ Hid (okTo s k) ∧ r = .int .i32 (acc s k)) (fun _ i => 4 - (intOf i).toNat)
    case atStart => exact ⟨0, by omega, rfl, fun j hj => by omega, rfl⟩
    case round =>
      obtain ⟨k, hk, rfl, hok, rfl⟩ := hrel
      have hb := get_bt s
      have hbd := bt_bd s k
      by_cases hlt : k < 4
      · rcases (show (48 ≤ bt s k ∧ bt s k ≤ 57) ∨ (97 ≤ bt s k ∧ bt s k ≤ 102) ∨ (65 ≤ bt s k ∧ bt s k ≤ 70) ∨ (bt s k < 48 ∨ 57 < bt s k ∧ bt s k < 65 ∨ 70 < bt s k ∧ bt s k < 97 ∨ 102 < bt s k) from by omega) with hc | hc | hc | hc
        · go_wp2
          go_round
          case rel =>
            have e : hv (bt s k) = bt s k - 48 := by unfold hv; repeat' split
                                                     all_goals omega
            exact ⟨k + 1, by omega, by go_num, okTo_succ hok.out (by omega), val_i32 (or_step hlt hok.out e (by omega))⟩
          case measure => simp [intOf]; omega
        · go_wp2
          go_round
          case rel =>
            have e : hv (bt s k) = bt s k - 87 := by unfold hv; repeat' split
                                                     all_goals omega
            exact ⟨k + 1, by omega, by go_num, okTo_succ hok.out (by omega), val_i32 (or_step hlt hok.out e (by omega))⟩
          case measure => simp [intOf]; omega
        · go_wp2
          go_round
          case rel =>
            have e : hv (bt s k) = bt s k - 55 := by unfold hv; repeat' split
                                                     all_goals omega
            exact ⟨k + 1, by omega, by go_num, okTo_succ hok.out (by omega), val_i32 (or_step hlt hok.out e (by omega))⟩
          case measure => simp [intOf]; omega
        · go_wp2
          all_goals
            go_ret
            exact ⟨ret_i32 (hx_bad hlt (by unfold hv; repeat' split
                                           all_goals omega)).symm, rfl⟩
      · have e : k = 4 := by omega
        subst e
        go_wp2
        go_ret
        exact ⟨ret_i32 (hx_good h4 hok.out).symm, rfl⟩
  · have h4' : s.size < 4 := by omega
    go_enter Try.func29, Try.ntmps29
    go_wp2
    go_ret
    exact ⟨ret_i32 (hx_short h4').symm, rfl⟩

theorem zzhex4_any (s : ByteArray) (w : World) (hs : s.size ≤ maxLen) :
    Calls Try.prog 12 #[.string s] w fun e w' => e = .returned (.int .i32 (hx s)) ∧ w' = w := by
  go_enter Try.func12, Try.ntmps12
  go_wp2_with (go_at_call 29; refine (hex4_any _ _ hs).mono ?_; rintro e w' ⟨rfl, rfl⟩)
  go_ret
  exact ⟨rfl, rfl⟩
end Go.Proofs.Qxb6000613a
