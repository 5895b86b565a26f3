/-
  FnNumberAcceptsWellFormed: the short ways (the law's own bounds; a suffix that could extend the number) and small laws of the automaton. By an AI agent. No person has read it.
-/
import Derived.Test.Qxb6000613aWfPlain
import Derived.Deep.CutBlock
namespace Go.Proofs.Qxb6000613a
open Go.RowKit

theorem zb21 (a0 : ByteArray) (a1 a2 : Bool) (a3 a4 : ByteArray) (a5 : Int) (a6 a7 : ByteArray) (w : World) (hs : a0.size + a3.size + a4.size + a6.size + a7.size ≤ 1048576) :
    Calls Try.prog 21 #[.string a0, .bool a1, .bool a2, .string a3, .string a4, .int .u8 a5, .string a6, .string a7] w fun e w' => e = .returned (.bool true) ∧ w = w' := by
  go_enter Try.func21, Try.ntmps21
  go_wp2
  go_ret
  exact ⟨rfl, rfl⟩

set_option maxHeartbeats 1000000 in
theorem zb21_false (a0 : ByteArray) (a1 a2 : Bool) (a3 a4 : ByteArray) (a5 : Int) (a6 a7 : ByteArray) (w : World) (h0 : a0.size ≤ 9223372036854775807) (h3 : a3.size ≤ 9223372036854775807) (h4 : a4.size ≤ 9223372036854775807) (h6 : a6.size ≤ 9223372036854775807) (h7 : a7.size ≤ 9223372036854775807) (hs : 1048576 < a0.size + a3.size + a4.size + a6.size + a7.size) :
    Calls Try.prog 21 #[.string a0, .bool a1, .bool a2, .string a3, .string a4, .int .u8 a5, .string a6, .string a7] w fun e w' => e = .returned (.bool false) ∧ w = w' := by
  by_cases c0 : 1048576 < a0.size
  · go_enter Try.func21, Try.ntmps21
    go_wp2
    go_ret
    exact ⟨rfl, rfl⟩
  by_cases c1 : 1048576 < a3.size
  · go_enter Try.func21, Try.ntmps21
    go_wp2
    go_ret
    exact ⟨rfl, rfl⟩
  by_cases c2 : 1048576 < a0.size + a3.size
  · go_enter Try.func21, Try.ntmps21
    go_wp2
    go_ret
    exact ⟨rfl, rfl⟩
  by_cases c3 : 1048576 < a4.size
  · go_enter Try.func21, Try.ntmps21
    go_wp2
    go_ret
    exact ⟨rfl, rfl⟩
  by_cases c4 : 1048576 < a0.size + a3.size + a4.size
  · go_enter Try.func21, Try.ntmps21
    go_wp2
    go_ret
    exact ⟨rfl, rfl⟩
  by_cases c5 : 1048576 < a6.size
  · go_enter Try.func21, Try.ntmps21
    go_wp2
    go_ret
    exact ⟨rfl, rfl⟩
  by_cases c6 : 1048576 < a0.size + a3.size + a4.size + a6.size
  · go_enter Try.func21, Try.ntmps21
    go_wp2
    go_ret
    exact ⟨rfl, rfl⟩
  by_cases c7 : 1048576 < a7.size
  · go_enter Try.func21, Try.ntmps21
    go_wp2
    go_ret
    exact ⟨rfl, rfl⟩
  go_enter Try.func21, Try.ntmps21
  go_wp2
  go_ret
  exact ⟨rfl, rfl⟩

theorem runL_one {t c u : Int} (h : stepN t c = u) (h0 : 0 ≤ u) : runL t [c] = some u := by
  simp only [runL]; rw [h, if_neg (by omega)]
theorem run_first {t c : Int} (ht : t = 0 ∨ t = 1) (h : 49 ≤ c ∧ c ≤ 57) : runL t [c] = some 3 := by
  refine runL_one ?_ (by omega)
  rcases ht with rfl | rfl
  · rw [step0, if_neg (by omega), if_neg (by omega), if_pos (by omega)]
  · rw [step1, if_neg (by omega), if_pos (by omega)]
theorem run_d3 {c : Int} (h : 48 ≤ c ∧ c ≤ 57) : runL 3 [c] = some 3 := runL_one (by rw [step3, if_pos h]) (by omega)
theorem run_d4 {t c : Int} (ht : t = 4 ∨ t = 5) (h : 48 ≤ c ∧ c ≤ 57) : runL t [c] = some 5 := by
  refine runL_one ?_ (by omega)
  rcases ht with rfl | rfl
  · rw [step4, if_pos h]
  · rw [step5, if_pos h]
theorem run_dot {t : Int} (ht : t = 2 ∨ t = 3) : runL t [46] = some 4 := by rcases ht with rfl | rfl <;> rfl
theorem run_d6 {t c : Int} (ht : t = 6 ∨ t = 7 ∨ t = 8) (h : 48 ≤ c ∧ c ≤ 57) : runL t [c] = some 8 := by
  refine runL_one ?_ (by omega)
  rcases ht with rfl | rfl | rfl
  · rw [step6, if_neg (by omega), if_pos h]
  · rw [step7, if_pos h]
  · rw [step8, if_pos h]
theorem rng_one {c : Int} (h : 0 ≤ c ∧ c ≤ 255) : ∀ x, x ∈ [c] → 0 ≤ x ∧ x ≤ 255 := fun x hx => by
  rw [List.mem_singleton] at hx; rw [hx]; exact h

theorem nm_view {B : Nat} {v : Value} {w : World} {xs : List Int} {t : Int} (h : Nm B v w xs t) (ht : t ≠ 0) :
    ∃ g cap, v = .slice (some ⟨g, 0, none⟩) xs.length cap ∧ ∀ i, i < xs.length → w.cell? ⟨g, 0 + i, none⟩ = some (.int .u8 (xs.getD i 0)) := by
  have hr := h.run
  rcases h.own.2 with ⟨_, h0⟩ | ⟨g, cap, cur, hv, _⟩
  · have : xs = [] := List.eq_nil_of_length_eq_zero h0
    rw [this] at hr
    simp only [runL, Option.some.injEq] at hr
    exact absurd hr.symm ht
  · refine ⟨g, cap, hv, fun i hi => ?_⟩
    have ho := h.own
    rw [hv] at ho
    have := ho.cellAt i (by omega)
    rw [Nat.zero_add, this, List.getElem?_map, List.getElem?_eq_getElem hi]
    simp [List.getD, List.getElem?_eq_getElem hi]


set_option maxHeartbeats 1000000 in
set_option maxRecDepth 100000 in
theorem wf_big (a0 : ByteArray) (a1 a2 : Bool) (a3 a4 : ByteArray) (a5 : Int) (a6 a7 : ByteArray) (w : World) (h0 : a0.size ≤ 9223372036854775807) (h3 : a3.size ≤ 9223372036854775807) (h4 : a4.size ≤ 9223372036854775807) (h6 : a6.size ≤ 9223372036854775807) (h7 : a7.size ≤ 9223372036854775807) (hs : 1048576 < a0.size + a3.size + a4.size + a6.size + a7.size) :
    Calls Try.prog 7 #[.string a0, .bool a1, .bool a2, .string a3, .string a4, .int .u8 a5, .string a6, .string a7] w fun e w' => e = .returned (.bool true) ∧ Below w.heap.size w w' := by
  have H : Hid (Calls Try.prog 21 #[.string a0, .bool a1, .bool a2, .string a3, .string a4, .int .u8 a5, .string a6, .string a7] w fun e w' => e = .returned (.bool false) ∧ w = w') := zb21_false a0 a1 a2 a3 a4 a5 a6 a7 w h0 h3 h4 h6 h7 hs
  go_enter Try.func7, Try.ntmps7
  go_wp2_with (go_at_call 21; refine H.out.mono ?_; rintro e w' ⟨rfl, rfl⟩)
  go_ret
  exact ⟨rfl, Below.refl _ _⟩

set_option maxHeartbeats 4000000 in
set_option maxRecDepth 100000 in
theorem wf_suffix (a0 : ByteArray) (a1 a2 : Bool) (a3 a4 : ByteArray) (a5 : Int) (a6 a7 : ByteArray) (w : World) (hs : a0.size + a3.size + a4.size + a6.size + a7.size ≤ 1048576) (hsuf : ¬ calm (bt a7 0)) :
    Calls Try.prog 7 #[.string a0, .bool a1, .bool a2, .string a3, .string a4, .int .u8 a5, .string a6, .string a7] w fun e w' => e = .returned (.bool true) ∧ Below w.heap.size w w' := by
  have hz : 0 < a7.size := by
    rcases Nat.eq_zero_or_pos a7.size with h | h
    · exfalso
      apply hsuf
      rw [bt_out (by omega)]
      unfold calm isD
      omega
    · exact h
  have hb := get_bt a7
  have hbd := bt_bd a7 0
  have hd : (48 ≤ bt a7 0 ∧ bt a7 0 ≤ 57) ∨ bt a7 0 = 46 ∨ bt a7 0 = 101 ∨ bt a7 0 = 69 := by
    unfold calm isD at hsuf
    omega
  clear hsuf
  rcases hd with hd | hd | hd | hd
  all_goals
    go_enter Try.func7, Try.ntmps7
    go_wp2_with (go_at_call 21; refine (zb21 a0 a1 a2 a3 a4 a5 a6 a7 _ hs).mono ?_; rintro e w' ⟨rfl, rfl⟩)
    go_ret
    exact ⟨rfl, Below.refl _ _⟩
end Go.Proofs.Qxb6000613a
