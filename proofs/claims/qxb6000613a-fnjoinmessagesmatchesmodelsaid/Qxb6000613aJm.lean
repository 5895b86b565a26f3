/-
  FnJoinMessagesMatchesModel: the walk. By an AI agent. No person has read it.
-/
import Derived.Test.Qxb6000613aMsgs
namespace Go.Proofs.Qxb6000613a
open Go.RowKit Go.Maps

theorem zb23_empty (ao : Option Addr) (cap : Nat) (w : World) : Calls Try.prog 23 #[.slice ao 0 cap] w fun e w' => AnsB e ∧ w = w' := by
  go_enter Try.func23, Try.ntmps23
  go_wp2
  refine wp_loop_rounds 1 ?_
  rw [rounds_succ]
  go_wp2
  go_ret
  exact ⟨⟨_, rfl⟩, rfl⟩
theorem big24_empty (ao : Option Addr) (cap : Nat) (w : World) : Calls Try.prog 24 #[.slice ao 0 cap] w fun e w' => e = .returned (.bool false) ∧ w = w' := by
  go_enter Try.func24, Try.ntmps24
  go_wp2
  refine wp_loop_rounds 1 ?_
  rw [rounds_succ]
  go_wp2
  go_ret
  exact ⟨rfl, rfl⟩

/-- Of no messages. -/
theorem jm_empty (ao tq : Option Addr) (cap tc : Nat) (w W1 : World) (hB : Hid (Below w.heap.size w W1))
    (CLN : Hid (Calls Try.prog 25 #[.slice ao 0 cap] w fun e w' => e = .returned (.slice tq 0 tc) ∧ W1 = w')) :
    Calls Try.prog 9 #[.slice ao 0 cap] w fun e w' => e = .returned (.bool true) ∧ Below w.heap.size w w' := by
  have hsz := hB.out.size
  go_enter Try.func9, Try.ntmps9
  go_wp2_with fail
  refine (zb23_empty _ _ _).mono ?_
  rintro e w' ⟨⟨c, rfl⟩, rfl⟩
  cases c with
  | false =>
    go_wp2
    go_ret
    exact ⟨rfl, Below.refl _ _⟩
  | true =>
    go_wp2_with (first | (go_at_call 24; refine (big24_empty _ _ _).mono ?_; rintro e w' ⟨rfl, rfl⟩) | (go_at_call 25; refine CLN.out.mono ?_; rintro e w' ⟨rfl, rfl⟩) | (go_at_call 26; refine (zzjoin_empty _ _ _).mono ?_; rintro e w2 ⟨rfl, hb2⟩) | (go_at_call 27; refine (model_empty _ _ _).mono ?_; rintro e w3 ⟨rfl, hb3⟩))
    go_ret
    exact ⟨rfl, (hB.out.trans (hb2.mono hsz)).trans (hb3.mono (by have := hb2.size; omega))⟩

set_option maxHeartbeats 1000000 in
theorem jm_row (b off n cap : Nat) (ss : List ByteArray) (ms : List (List UInt8)) (w : World) (hm : n ≤ 9223372036854775807) (hl : ms.length = n)
    (hms : ∀ i, i < n → ms.getD i [] = (ss.getD i ByteArray.empty).data.toList)
    (hc : ∀ i, i < n → w.cell? ⟨b, off + i, none⟩ = some (.string (ss.getD i ByteArray.empty))) (hb : b < w.heap.size) :
    Calls Try.prog 9 #[.slice (some ⟨b, off, none⟩) n cap] w fun e w' => e = .returned (.bool true) ∧ Below w.heap.size w w' := by
  have Z : Hid (Calls Try.prog 23 #[.slice (some ⟨b, off, none⟩) n cap] w fun e w' => AnsB e ∧ w = w') := zb23_any w b off n cap ss hm hc
  have Y : Hid (Calls Try.prog 24 #[.slice (some ⟨b, off, none⟩) n cap] w fun e w' => AnsT e (SmallM ms n) ∧ w = w') := big24_any w b off n cap ss ms hm hms hc
  have X : Hid (n ≤ 4096 → Calls Try.prog 25 #[.slice (some ⟨b, off, none⟩) n cap] w fun e w' => e = .returned (.slice (some ⟨w.heap.size, 0, none⟩) n n) ∧ w.alloc (.cells (cpS ss n n) 9) = w') := fun h => cloneS_row w b off n cap ss h hc hb
  have HM : Hid (∀ i, i < n → ms.getD i [] = (ss.getD i ByteArray.empty).data.toList) := hms
  clear hms hc
  go_enter Try.func9, Try.ntmps9
  go_wp2_with fail
  refine Z.out.mono ?_
  rintro e w' ⟨⟨c, rfl⟩, rfl⟩
  cases c with
  | false =>
    go_wp2
    go_ret
    exact ⟨rfl, Below.refl _ _⟩
  | true =>
    go_wp2_with fail
    refine Y.out.mono ?_
    rintro e w' ⟨⟨c, rfl, hc⟩, rfl⟩
    cases c with
    | true =>
      go_wp2
      go_ret
      exact ⟨rfl, Below.refl _ _⟩
    | false =>
      obtain ⟨hn, htot⟩ := hc rfl
      go_wp2_with fail
      refine (X.out hn).mono ?_
      rintro e w' ⟨rfl, rfl⟩
      go_wp2_with fail
      refine (zzjoin_walk w.heap.size 0 n n ss ms (w.alloc (.cells (cpS ss n n) 9)) hn hl HM.out (fun i hi => cpS_cell w ss n i hi) (by simp) htot).mono ?_
      rintro e w2 ⟨rfl, hb2⟩
      have hs2 := hb2.size
      go_wp2_with fail
      refine (model_walk w.heap.size 0 n n ss ms w2 hn hl HM.out (fun i hi => (hb2.cell (by simp)).trans (cpS_cell w ss n i hi)) (by simp at hs2; omega) htot).mono ?_
      rintro e w3 ⟨rfl, hb3⟩
      go_wp2
      go_ret
      have hbw : Below w.heap.size w (w.alloc (.cells (cpS ss n n) 9)) := (Below.refl _ _).alloc (Nat.le_refl _) _
      have hs1 := hbw.size
      refine ⟨?_, (hbw.trans (hb2.mono hs1)).trans (hb3.mono (by omega))⟩
      have hJ := J_M (ddTo_nodup ms n)
      rw [← hJ]
      simp
end Go.Proofs.Qxb6000613a
