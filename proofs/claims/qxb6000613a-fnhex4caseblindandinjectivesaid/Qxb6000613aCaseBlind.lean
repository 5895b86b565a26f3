/-
  FnHex4CaseBlindAndInjective: the plain laws and the walk of the long way. By an AI agent. No person has read it.
-/
import Derived.Test.Qxb6000613aLower
import Derived.Deep.RegionWith
namespace Go.Proofs.Qxb6000613a
open Go.RowKit

theorem bt_nums (xs : List Int) (j : Nat) (hj : j < xs.length) (h0 : 0 ≤ xs.getD j 0) (h1 : xs.getD j 0 ≤ 255) : bt (strOfNums xs) j = xs.getD j 0 := by
  unfold bt
  have hs : j < (strOfNums xs).size := by rw [strOfNums_size]; exact hj
  rw [dif_pos hs]
  have e : (strOfNums xs)[j] = UInt8.ofNat (xs.getD j 0).toNat := by
    show (strOfNums xs).data[j] = _
    simp [strOfNums, List.getD, List.getElem?_eq_getElem hj]
  rw [e, UInt8.toNat_ofNat']
  omega
theorem low_size (s : ByteArray) : (low s).size = s.size := by unfold low; rw [strOfNums_size, lowTo_length]
theorem bt_low (s : ByteArray) (j : Nat) (h : j < s.size) : bt (low s) j = lw (bt s j) := by
  have e : (lowTo s s.size).getD j 0 = lw (bt s j) := by
    rw [List.getD, lowTo_get s s.size j h, if_pos h]; rfl
  have hb := lw_bd (bt_bd s j)
  unfold low
  rw [bt_nums _ j (by rw [lowTo_length]; exact h) (by rw [e]; exact hb.1) (by rw [e]; exact hb.2), e]
theorem hv_lw (c : Int) : hv (lw c) = hv c := by
  unfold hv lw
  repeat' split
  all_goals omega
theorem hx_low (a : ByteArray) (h : 4 ≤ a.size) : hx (low a) = hx a :=
  hx_congr (by rw [low_size]) (fun j hj => by rw [bt_low a j (by omega), hv_lw])
theorem hx_low' (a : ByteArray) : hx (low a) = hx a := by
  by_cases h : 4 ≤ a.size
  · exact hx_low a h
  · rw [hx_short (show a.size < 4 by omega), hx_short (show (low a).size < 4 by rw [low_size]; omega)]
theorem lw_of_hv {c d : Int} (h : hv c = hv d) (h0 : 0 ≤ hv c) : lw c = lw d := by
  revert h h0
  unfold hv lw
  repeat' split
  all_goals omega
theorem hx_ok {a : ByteArray} (h : 0 ≤ hx a) : 4 ≤ a.size ∧ 0 ≤ hv (bt a 0) ∧ 0 ≤ hv (bt a 1) ∧ 0 ≤ hv (bt a 2) ∧ 0 ≤ hv (bt a 3) ∧ hx a = acc a 4 := by
  revert h
  unfold hx
  split
  · rename_i h; intro _; exact ⟨h.1, h.2.1, h.2.2.1, h.2.2.2.1, h.2.2.2.2, rfl⟩
  · omega
theorem low_congr {x y : ByteArray} (h : x.size = y.size) (hb : ∀ j, j < x.size → lw (bt x j) = lw (bt y j)) : low x = low y := by
  unfold low
  congr 1
  unfold lowTo
  rw [← h]
  apply List.map_congr_left
  intro j hj
  have := List.mem_range.1 hj
  rw [if_pos this, if_pos this, hb j this]
theorem inj_plain {a b : ByteArray} (h : 0 ≤ hx a) (he : hx a = hx b) : low (a.extract 0 4) = low (b.extract 0 4) := by
  obtain ⟨ha4, p0, p1, p2, p3, ea⟩ := hx_ok h
  obtain ⟨hb4, q0, q1, q2, q3, eb⟩ := hx_ok (he ▸ h)
  have e : acc a 4 = acc b 4 := by rw [← ea, ← eb, he]
  simp only [acc] at e
  have b0 := hv_bd (bt a 0)
  have b1 := hv_bd (bt a 1)
  have b2 := hv_bd (bt a 2)
  have b3 := hv_bd (bt a 3)
  have c0 := hv_bd (bt b 0)
  have c1 := hv_bd (bt b 1)
  have c2 := hv_bd (bt b 2)
  have c3 := hv_bd (bt b 3)
  have s1 : (a.extract 0 4).size = 4 := by simp; omega
  have s2 : (b.extract 0 4).size = 4 := by simp; omega
  refine low_congr (by rw [s1, s2]) (fun j hj => ?_)
  rw [s1] at hj
  rw [bt_take4 a ha4 j hj, bt_take4 b hb4 j hj]
  obtain rfl | rfl | rfl | rfl : j = 0 ∨ j = 1 ∨ j = 2 ∨ j = 3 := by omega
  · exact lw_of_hv (by omega) p0
  · exact lw_of_hv (by omega) p1
  · exact lw_of_hv (by omega) p2
  · exact lw_of_hv (by omega) p3

set_option maxHeartbeats 1000000 in
theorem cb_walk (a b : ByteArray) (hs : a.size + b.size ≤ 1048576) (w : World) :
    Calls Try.prog 5 #[.string a, .string b] w fun e w' => e = .returned (.bool true) ∧ Grown w w' := by
  have ma : a.size ≤ maxLen := by unfold maxLen; omega
  have mb : b.size ≤ maxLen := by unfold maxLen; omega
  have ml : (low a).size ≤ maxLen := by rw [low_size]; exact ma
  have ha1 : a.size ≤ 1048576 := by omega
  have hb1 : b.size ≤ 1048576 := by omega
  have e1 := hx_low' a
  by_cases h0 : 0 ≤ hx a
  · by_cases he : hx a = hx b
    · have ha4 := (hx_ok h0).1
      have hb4 := (hx_ok (he ▸ h0)).1
      have hin := inj_plain h0 he
      have HI : Hid (low (a.extract 0 4) = low (b.extract 0 4)) := hin
      have s1 : (a.extract 0 4).size ≤ 1048576 := by simp; omega
      have s2 : (b.extract 0 4).size ≤ 1048576 := by simp; omega
      have eb : (hx a == hx b) = true := by simp [he]
      have HE : Hid (hx a = hx b) := he
      clear he hin
      go_enter Try.func5, Try.ntmps5
      go_wp2_with (first | (go_at_call_of 12 (Value.string a); refine (zzhex4_any _ _ ma).mono ?_; rintro e w' ⟨rfl, rfl⟩) | (go_at_call_of 12 (Value.string b); refine (zzhex4_any _ _ mb).mono ?_; rintro e w' ⟨rfl, rfl⟩) | (go_at_call_of 12 (Value.string (low a)); refine (zzhex4_any _ _ ml).mono ?_; rintro e w' ⟨rfl, rfl⟩) | (go_at_call 16; refine (lower_any _ _ ha1).mono ?_; rintro e w' ⟨cs, rfl, rfl⟩) | go_in)
      go_region_with (first | (go_at_call_of 16 (Value.string (a.extract 0 4)); refine (lower_any _ _ s1).mono ?_; rintro e w' ⟨cs1, rfl, rfl⟩) | (go_at_call_of 16 (Value.string (b.extract 0 4)); refine (lower_any _ _ s2).mono ?_; rintro e w' ⟨cs2, rfl, rfl⟩))
      all_goals
        go_wp2
        go_ret
        refine ⟨?_, by repeat (first | exact Grown.refl _ | apply Grown.drew | apply Grown.alloc)⟩
        refine ret_bool ?_
        rw [HI.out]
        simp
    · have eb : (hx a == hx b) = false := by simp [he]
      clear he
      go_enter Try.func5, Try.ntmps5
      go_wp2_with (first | (go_at_call_of 12 (Value.string a); refine (zzhex4_any _ _ ma).mono ?_; rintro e w' ⟨rfl, rfl⟩) | (go_at_call_of 12 (Value.string b); refine (zzhex4_any _ _ mb).mono ?_; rintro e w' ⟨rfl, rfl⟩) | (go_at_call_of 12 (Value.string (low a)); refine (zzhex4_any _ _ ml).mono ?_; rintro e w' ⟨rfl, rfl⟩) | (go_at_call 16; refine (lower_any _ _ ha1).mono ?_; rintro e w' ⟨cs, rfl, rfl⟩) | go_in)
      go_ret
      exact ⟨rfl, by repeat (first | exact Grown.refl _ | apply Grown.drew | apply Grown.alloc)⟩
  · have h0' : hx a < 0 := by omega
    clear h0
    go_enter Try.func5, Try.ntmps5
    go_wp2_with (first | (go_at_call_of 12 (Value.string a); refine (zzhex4_any _ _ ma).mono ?_; rintro e w' ⟨rfl, rfl⟩) | (go_at_call_of 12 (Value.string b); refine (zzhex4_any _ _ mb).mono ?_; rintro e w' ⟨rfl, rfl⟩) | (go_at_call_of 12 (Value.string (low a)); refine (zzhex4_any _ _ ml).mono ?_; rintro e w' ⟨rfl, rfl⟩) | (go_at_call 16; refine (lower_any _ _ ha1).mono ?_; rintro e w' ⟨cs, rfl, rfl⟩) | go_in)
    go_ret
    exact ⟨rfl, by repeat (first | exact Grown.refl _ | apply Grown.drew | apply Grown.alloc)⟩
end Go.Proofs.Qxb6000613a
