/-
  THE SHELL OF A PROOF OF 'Rows.FnHex4RefusesExactlyNonHexSaid' ('example.com/attestor/attestor/zzlaws_root_b1.FnHex4RefusesExactlyNonHex'), WRITTEN BY PROGRAM (proof-skeleton.mjs) off the guide's own print for that function. Not trusted: Lean checks it.
  The holes are filled by an AI agent. No person has read it.
-/
import Derived.Test.Qxb6000613aRows
import Derived.Test.Qxb6000613aHexLaws
import Derived.WalkKit
import Derived.Deep.RegionWith
import Derived.ProofKit
import Derived.OpenShut
import Derived.ShutString
namespace Go.Proofs.Qxb6000613a.fnHex4RefusesExactlyNonHex
open Go.ChangeShapes Go.WideShapes Go.ChangeAt Go.RowKit
open Go.ChangeMaps (open_string shut_string)
set_option linter.unusedVariables false      -- a walk need not use every 'w<i>' (that an integer argument fits its kind)

theorem own : ownKnob Try.prog.godebug = none := by kernel_rfl

/-! ### STEP 1: THE WALK: the Go text returns true. 'Grown w w'': the world has at most new blocks (Derived/RowKit3.lean). Part the cases AHEAD of 'go_enter' where a test parts the walk; take each callee by a contract of your own. -/
set_option maxHeartbeats 400000 in
theorem walk (a0 : ByteArray) (w0 : a0.size ≤ maxLen) (w : World) :
    Calls Try.prog 4 #[.string a0] w fun e w' => e = .returned (.bool true) ∧ Grown w w' := by
  have hm := w0
  unfold maxLen at hm
  have hb := get_bt a0
  by_cases hbig : 1048576 < a0.size
  · go_enter Try.func4, Try.ntmps4
    go_wp2
    go_ret
    exact ⟨rfl, Grown.refl _⟩
  · by_cases h4 : 4 ≤ a0.size
    · cases e0 : isHexB (bt a0 0) with
      | false =>
        have e := hx_not (by omega) e0
        go_enter Try.func4, Try.ntmps4
        go_wp2_with (first | (go_at_call 12; refine (zzhex4_any _ _ w0).mono ?_; rintro e w' ⟨rfl, rfl⟩) | (go_at_call 14; refine (isHex_any _ _).mono ?_; rintro e w' ⟨rfl, rfl⟩) | go_in)
        go_ret
        exact ⟨rfl, Grown.refl _⟩
      | true =>
        cases e1 : isHexB (bt a0 1) with
        | false =>
          have e := hx_not (by omega) e1
          go_enter Try.func4, Try.ntmps4
          go_wp2_with (first | (go_at_call 12; refine (zzhex4_any _ _ w0).mono ?_; rintro e w' ⟨rfl, rfl⟩) | (go_at_call 14; refine (isHex_any _ _).mono ?_; rintro e w' ⟨rfl, rfl⟩) | go_in)
          go_ret
          exact ⟨rfl, Grown.refl _⟩
        | true =>
          cases e2 : isHexB (bt a0 2) with
          | false =>
            have e := hx_not (by omega) e2
            go_enter Try.func4, Try.ntmps4
            go_wp2_with (first | (go_at_call 12; refine (zzhex4_any _ _ w0).mono ?_; rintro e w' ⟨rfl, rfl⟩) | (go_at_call 14; refine (isHex_any _ _).mono ?_; rintro e w' ⟨rfl, rfl⟩) | go_in)
            go_ret
            exact ⟨rfl, Grown.refl _⟩
          | true =>
            cases e3 : isHexB (bt a0 3) with
            | false =>
              have e := hx_not (by omega) e3
              go_enter Try.func4, Try.ntmps4
              go_wp2_with (first | (go_at_call 12; refine (zzhex4_any _ _ w0).mono ?_; rintro e w' ⟨rfl, rfl⟩) | (go_at_call 14; refine (isHex_any _ _).mono ?_; rintro e w' ⟨rfl, rfl⟩) | go_in)
              go_ret
              exact ⟨rfl, Grown.refl _⟩
            | true =>
              have hall := hx_all h4 e0 e1 e2 e3
              have e := hx_take4 a0 h4
              have he : (a0.extract 0 4).size ≤ maxLen := by simp; unfold maxLen; omega
              go_enter Try.func4, Try.ntmps4
              go_wp2_with (first | (go_at_call_of 12 (Value.string a0); refine (zzhex4_any _ _ w0).mono ?_; rintro e w' ⟨rfl, rfl⟩) | (go_at_call_of 12 (Value.string (a0.extract 0 4)); refine (zzhex4_any _ _ he).mono ?_; rintro e w' ⟨rfl, rfl⟩) | (go_at_call 14; refine (isHex_any _ _).mono ?_; rintro e w' ⟨rfl, rfl⟩) | go_in)
              go_ret
              exact ⟨rfl, Grown.refl _⟩
    · have h4' : a0.size < 4 := by omega
      have e := hx_short h4'
      go_enter Try.func4, Try.ntmps4
      go_wp2_with (first | (go_at_call 12; refine (zzhex4_any _ _ w0).mono ?_; rintro e w' ⟨rfl, rfl⟩) | go_in)
      go_ret
      exact ⟨rfl, Grown.refl _⟩

/-! ### THE ROW's STEP: WRITTEN OUT: LEAVE IT -/
set_option maxRecDepth 100000 in
theorem lifted (os : Os) (started : os.Started) (H : Type) (enc : TypeId × Value → H) :
    ReturnsInHanded {} Try.checked os 4 .any (Rows.fnHex4RefusesExactlyNonHexSpec.pre6 enc Try.prog Try.f4 Rows.fnHex4RefusesExactlyNonHexRow.domain false) (Rows.fnHex4RefusesExactlyNonHexSpec.post enc Try.prog Try.f4 false true false false) := by
  refine returnsInHanded_of_change (C := Try.checked) own started (by kernel_rfl) Try.func4
    (ChangeSpec.witness6 (enc := enc) (C := Try.checked) false ⟨#[], #[.string ByteArray.empty], []⟩ 8 (by kernel_rfl) (by kernel_rfl) (by kernel_rfl) (by kernel_rfl)) ?_
  intro W base args ds gs before hval0 hW hcnd _
  have hval : ∀ (j : Nat) t v, Try.f4.params[j]? = some t → args[j]? = some v → Value.okWide Try.prog W .any base t v := hval0
  have hW' := hW
  obtain ⟨p, q, hA0, hV, rfl, hfz, hnd⟩ := hW
  have hA : DataW.TrodAll enc Try.prog W 0 (fun _ => true) true Try.f4.params.toList args.toList ds p := hA0
  rw [Try.params4] at hA hval
  obtain ⟨v0, vs0, d0, ds0, p0, q0, hargs, rfl, rfl, h0, r0⟩ := trodAll_cons hA
  obtain ⟨rfl, rfl, rfl⟩ := trodAll_nil r0
  obtain rfl : args = #[v0] := by cases args; simp_all
  obtain ⟨rfl, rfl⟩ := trodVars_none hV
  obtain ⟨a0, rfl, rfl, rfl, w0⟩ := open_string Try.underlying9 (hval 0 9 v0 rfl rfl) h0
  clear hA0 hval0
  simp only [List.append_nil] at hW'
  refine (walk a0 w0 W).mono fun e W' ⟨he, hg⟩ => ?_
  subst he
  exact ⟨_, rfl, post_of_same (pa := []) (pv := []) hW' (fun _ _ _ => (trodAll_cons_mk (shut_bool Try.underlying4 _) trodAll_mk0)) (fun sp _ => (trodAll_cons_mk (shut_string Try.underlying9 w0) trodAll_mk0)) (fun _ _ => rfl) rfl
    (hg.frame _) hg.2.1 (ok_one (by kernel_rfl) rfl (okWide_bool_mk Try.underlying4 _))⟩

theorem over : Rows.fnHex4RefusesExactlyNonHexRow.holds Try.pinned (OpenSpec.ofChange Rows.fnHex4RefusesExactlyNonHexSpec) :=
  OpenClaim.holds_of_wide 4 Try.f4 rfl rfl rfl rfl rfl rfl rfl ⟨rfl, rfl, rfl, rfl, rfl⟩ rfl rfl rfl rfl rfl (by kernel_rfl) Try.func4 (by kernel_rfl)
    (of_decide_eq_true (by kernel_rfl)) (by unfold Func.isWrapper; first | (rw [if_pos (by decide +kernel)]; kernel_rfl) | (rw [if_neg (by decide +kernel)]; exact ⟨rfl, rfl⟩))
    (fun os started H enc _ => lifted os started H enc)

/-- ████ THE STATEMENT ████ -/
theorem proved : Rows.FnHex4RefusesExactlyNonHexSaid :=
  over
#print axioms proved
end Go.Proofs.Qxb6000613a.fnHex4RefusesExactlyNonHex
