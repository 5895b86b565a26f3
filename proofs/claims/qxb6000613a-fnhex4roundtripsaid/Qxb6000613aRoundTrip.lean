/-
  FnHex4RoundTrip: the plain law and the walk of the long way. By an AI agent. No person has read it.
-/
import Derived.Test.Qxb6000613aHexLaws
namespace Go.Proofs.Qxb6000613a
open Go.RowKit

def dg (v : Int) : Nat → Int
  | 0 => v / 4096
  | 1 => v / 256 % 16
  | 2 => v / 16 % 16
  | _ => v % 16

theorem and15 (x : Int) (h0 : 0 ≤ x) (h1 : x < 65536) : ∃ D : Nat, D < 16 ∧ Hid ((D : Int) = x % 16) ∧ bits .and .u16 x 15 = (D : Int) := by
  refine ⟨(x % 16).toNat, by omega, (show ((x % 16).toNat : Int) = x % 16 by omega), ?_⟩
  rw [u16_and x 15 h0 h1 (by decide) (by decide)]
  rw [show (15 : Int).toNat = 15 from rfl, nat_mask4]
  omega

theorem bt_app (xs : List Int) (a : ByteArray) (j : Nat) (hj : j < xs.length) (h0 : 0 ≤ xs.getD j 0) (h1 : xs.getD j 0 ≤ 255) : bt (strOfNums xs ++ a) j = xs.getD j 0 := by
  unfold bt
  have hs : j < (strOfNums xs).size := by rw [strOfNums_size]; exact hj
  have h2 : j < (strOfNums xs ++ a).size := by rw [ByteArray.size_append]; omega
  rw [dif_pos h2, ByteArray.getElem_append_left hs]
  have e : (strOfNums xs)[j] = UInt8.ofNat (xs.getD j 0).toNat := by
    show (strOfNums xs).data[j] = _
    simp [strOfNums, List.getD, List.getElem?_eq_getElem hj]
  rw [e, UInt8.toNat_ofNat']
  omega
theorem hv_pos {c : Int} (h : 0 ≤ hv c) : 0 ≤ c ∧ c ≤ 255 := by
  revert h; unfold hv; repeat' split
  all_goals omega
theorem rt_plain (v : Int) (hv0 : 0 ≤ v ∧ v ≤ 65535) (c0 c1 c2 c3 : Int) (a : ByteArray) (h : (0 < 4 → hv c0 = dg v 0) ∧ (1 < 4 → hv c1 = dg v 1) ∧ (2 < 4 → hv c2 = dg v 2) ∧ (3 < 4 → hv c3 = dg v 3)) :
    hx (strOfNums [c0, c1, c2, c3] ++ a) = v := by
  obtain ⟨h0, h1, h2, h3⟩ := h
  have h0 := h0 (by decide)
  have h1 := h1 (by decide)
  have h2 := h2 (by decide)
  have h3 := h3 (by decide)
  simp only [dg] at h0 h1 h2 h3
  have e0 : bt (strOfNums [c0, c1, c2, c3] ++ a) 0 = c0 := bt_app _ _ 0 (by simp) (hv_pos (c := c0) (by omega)).1 (hv_pos (c := c0) (by omega)).2
  have e1 : bt (strOfNums [c0, c1, c2, c3] ++ a) 1 = c1 := bt_app _ _ 1 (by simp) (hv_pos (c := c1) (by omega)).1 (hv_pos (c := c1) (by omega)).2
  have e2 : bt (strOfNums [c0, c1, c2, c3] ++ a) 2 = c2 := bt_app _ _ 2 (by simp) (hv_pos (c := c2) (by omega)).1 (hv_pos (c := c2) (by omega)).2
  have e3 : bt (strOfNums [c0, c1, c2, c3] ++ a) 3 = c3 := bt_app _ _ 3 (by simp) (hv_pos (c := c3) (by omega)).1 (hv_pos (c := c3) (by omega)).2
  unfold hx
  rw [if_pos]
  · simp only [acc]
    rw [e0, e1, e2, e3]
    omega
  · rw [e0, e1, e2, e3, ByteArray.size_append, strOfNums_size]
    simp only [List.length_cons, List.length_nil]
    omega

set_option maxHeartbeats 1000000 in
theorem rt_walk (a0 : Int) (a1 : Int) (a2 : ByteArray) (w0 : 0 ≤ a0 ∧ a0 ≤ 65535) (hs : a2.size ≤ 1048576) (w : World) :
    Calls Try.prog 3 #[.int .u16 a0, .int .u8 a1, .string a2] w fun e w' => e = .returned (.bool true) ∧ Grown w w' := by
  have hl := lowTab
  have hu := upTab
  go_enter Try.func3, Try.ntmps3
  go_wp2
  go_loopw [8] (fun i wr => ∃ (k : Nat) (c0 c1 c2 c3 : Int), k ≤ 4 ∧ i = .int .i64 k ∧ wr = w.alloc (.cells #[.int .u8 c0, .int .u8 c1, .int .u8 c2, .int .u8 c3] 24) ∧ Hid ((0 < k → hv c0 = dg a0 0) ∧ (1 < k → hv c1 = dg a0 1) ∧ (2 < k → hv c2 = dg a0 2) ∧ (3 < k → hv c3 = dg a0 3))) (fun i _ => 4 - (intOf i).toNat)
  case atStart => exact ⟨0, 0, 0, 0, 0, by omega, rfl, rfl, by omega, by omega, by omega, by omega⟩
  case round =>
    obtain ⟨k, c0, c1, c2, c3, hk, rfl, rfl, hc⟩ := hrel
    rcases (show k = 0 ∨ k = 1 ∨ k = 2 ∨ k = 3 ∨ k = 4 by omega) with rfl | rfl | rfl | rfl | rfl
    · obtain ⟨D, hD, HD, eD⟩ := and15 (a0 / 4096) (by omega) (by omega)
      go_wp2
      all_goals
        go_roundw
        case rel => exact ⟨1, _, c1, c2, c3, by omega, rfl, rfl, fun _ => by first | rw [hv_lo hD, HD.out]; simp only [dg]; omega | rw [hv_up hD, HD.out]; simp only [dg]; omega, by omega, by omega, by omega⟩
        case measure => simp [intOf]
    · obtain ⟨D, hD, HD, eD⟩ := and15 (a0 / 256) (by omega) (by omega)
      go_wp2
      all_goals
        go_roundw
        case rel => exact ⟨2, c0, _, c2, c3, by omega, rfl, rfl, fun _ => hc.out.1 (by omega), fun _ => by first | rw [hv_lo hD, HD.out]; simp only [dg] | rw [hv_up hD, HD.out]; simp only [dg], by omega, by omega⟩
        case measure => simp [intOf]
    · obtain ⟨D, hD, HD, eD⟩ := and15 (a0 / 16) (by omega) (by omega)
      go_wp2
      all_goals
        go_roundw
        case rel => exact ⟨3, c0, c1, _, c3, by omega, rfl, rfl, fun _ => hc.out.1 (by omega), fun _ => hc.out.2.1 (by omega), fun _ => by first | rw [hv_lo hD, HD.out]; simp only [dg] | rw [hv_up hD, HD.out]; simp only [dg], by omega⟩
        case measure => simp [intOf]
    · obtain ⟨D, hD, HD, eD⟩ := and15 a0 (by omega) (by omega)
      go_wp2
      all_goals
        go_roundw
        case rel => exact ⟨4, c0, c1, c2, _, by omega, rfl, rfl, fun _ => hc.out.1 (by omega), fun _ => hc.out.2.1 (by omega), fun _ => hc.out.2.2.1 (by omega), fun _ => by first | rw [hv_lo hD, HD.out]; simp only [dg] | rw [hv_up hD, HD.out]; simp only [dg]⟩
        case measure => simp [intOf]
    · have hcv := run_convert_bytes_arg (P := Try.prog) (w.alloc (.cells #[.int .u8 c0, .int .u8 c1, .int .u8 c2, .int .u8 c3] 24)) 26 5 Try.underlying26 Try.underlying5 w.heap.size 0 4 4 [c0, c1, c2, c3] rfl (fun i hi => by
        rcases (show i = 0 ∨ i = 1 ∨ i = 2 ∨ i = 3 by omega) with rfl | rfl | rfl | rfl <;> simp) 9 Try.underlying9
      have hsz := strOfNums_size [c0, c1, c2, c3]
      simp only [List.length_cons, List.length_nil] at hsz
      have e := rt_plain a0 w0 c0 c1 c2 c3 a2 hc.out
      have hml : (strOfNums [c0, c1, c2, c3] ++ a2).size ≤ maxLen := by rw [ByteArray.size_append, hsz]; unfold maxLen; omega
      go_wp2_with (go_at_call 12; refine (zzhex4_any _ _ hml).mono ?_; rintro e w' ⟨rfl, rfl⟩)
      go_ret
      exact ⟨rfl, (Grown.refl _).alloc _ _⟩
end Go.Proofs.Qxb6000613a
