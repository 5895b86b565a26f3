/-
  cloneMsgs, msgsTooBig, the bound on lengths: the walks. By an AI agent. No person has read it.
-/
import Derived.Test.Qxb6000613aModel
import Derived.Deep.OwnRows
import Derived.WalkLawsBesides
namespace Go.Proofs.Qxb6000613a
open Go.RowKit Go.Maps

theorem model_empty (ao : Option Addr) (cap : Nat) (w : World) :
    Calls Try.prog 27 #[.slice ao 0 cap] w fun e w' => e = .returned (.string ⟨#[]⟩) ∧ Below w.heap.size w w' := by
  have hcv := run_convert_bytes_nil (P := Try.prog) w 26 5 Try.underlying26 Try.underlying5 0 0 9 Try.underlying9
  go_enter Try.func27, Try.ntmps27
  go_wp2
  refine wp_loop_rounds 1 ?_
  rw [rounds_succ]
  go_wp2
  refine wp_loop_rounds 1 ?_
  rw [rounds_succ]
  go_wp2
  go_ret
  exact ⟨rfl, Below.refl _ _⟩

/-- A row of n strings: the first k are ss', the rest empty. -/
def cpS (ss : List ByteArray) (n k : Nat) : Array Value := ((List.range n).map fun j => Value.string (if j < k then ss.getD j ByteArray.empty else ByteArray.empty)).toArray
theorem cpS_size (ss : List ByteArray) (n k : Nat) : (cpS ss n k).size = n := by simp [cpS]
theorem cpS_get (ss : List ByteArray) (n k j : Nat) (h : j < n) : (cpS ss n k)[j]? = some (.string (if j < k then ss.getD j ByteArray.empty else ByteArray.empty)) := by simp [cpS, h]
theorem cpS_set (ss : List ByteArray) (n k : Nat) (_h : k < n) : (cpS ss n k).setIfInBounds k (.string (ss.getD k ByteArray.empty)) = cpS ss n (k + 1) := by
  apply Array.ext_getElem?
  intro j
  rw [Array.getElem?_setIfInBounds]
  by_cases hj : j < n
  · rw [cpS_get ss n (k + 1) j hj, cpS_get ss n k j hj, cpS_size]
    by_cases e : k = j
    · subst e; simp [hj]
    · rw [if_neg e]
      by_cases h2 : j < k
      · rw [if_pos h2, if_pos (by omega)]
      · rw [if_neg h2, if_neg (by omega)]
  · have e1 : (cpS ss n (k + 1))[j]? = none := by rw [Array.getElem?_eq_none]; rw [cpS_size]; omega
    have e2 : (cpS ss n k)[j]? = none := by rw [Array.getElem?_eq_none]; rw [cpS_size]; omega
    rw [e1, e2, if_neg (by omega)]
theorem cpS_zero (ss : List ByteArray) (n : Nat) : madeCells #[Value.string ByteArray.empty] n = cpS ss n 0 := by
  rw [← Array.toList_inj, toList_madeCells_one]
  apply List.ext_getElem?
  intro j
  by_cases hj : j < n
  · simp [cpS, hj]
  · simp [cpS, hj]
theorem cpS_cell (w : World) (ss : List ByteArray) (n j : Nat) (h : j < n) : (w.alloc (.cells (cpS ss n n) 9)).cell? ⟨w.heap.size, 0 + j, none⟩ = some (.string (ss.getD j ByteArray.empty)) := by
  rw [World.cell?_alloc_at _ _ _ _ rfl, Nat.zero_add, cpS_get ss n n j h, if_pos h]

theorem cloneS_nil (w : World) : Calls Try.prog 25 #[.slice none 0 0] w fun e w' => e = .returned (.slice none 0 0) ∧ w = w' := by
  have q39 : ∀ (w : World) (a : Option Addr) (n c n' c' : Nat), (binOp .eql 39 (.slice a n c) (.slice none n' c')).run Try.prog w = .ok (.bool a.isNone) w := fun w a n c n' c' => Lib.run_eql_slice_nil w _ _ a n c n' c' Try.underlying39
  go_enter Try.func25, Try.ntmps25
  go_wp2
  go_ret
  exact ⟨rfl, rfl⟩
set_option maxHeartbeats 400000 in
theorem cloneS_row (w : World) (b off n cap : Nat) (ss : List ByteArray) (hn : n ≤ 4096) (hc : ∀ i, i < n → w.cell? ⟨b, off + i, none⟩ = some (.string (ss.getD i ByteArray.empty))) (hb : b < w.heap.size) :
    Calls Try.prog 25 #[.slice (some ⟨b, off, none⟩) n cap] w fun e w' => e = .returned (.slice (some ⟨w.heap.size, 0, none⟩) n n) ∧ w.alloc (.cells (cpS ss n n) 9) = w' := by
  have q39 : ∀ (w : World) (a : Option Addr) (n c n' c' : Nat), (binOp .eql 39 (.slice a n c) (.slice none n' c')).run Try.prog w = .ok (.bool a.isNone) w := fun w a n c n' c' => Lib.run_eql_slice_nil w _ _ a n c n' c' Try.underlying39
  have hmk := fun w => run_make_row' (P := Try.prog) 39 9 (.string ByteArray.empty) 16 Try.underlying39 info9 rfl .i64 .i64 n (by omega) (by omega) w
  have HC : Hid (∀ i, i < n → w.cell? ⟨b, off + i, none⟩ = some (.string (ss.getD i ByteArray.empty))) := hc
  clear hc
  go_enter Try.func25, Try.ntmps25
  go_wp2
  go_loopw [4] (fun i wr => ∃ (k : Nat) (cs : Array Value), k ≤ n ∧ i = .int .i64 k ∧ wr = w.alloc (.cells cs 9) ∧ Hid (cs = cpS ss n k)) (fun i _ => n - (intOf i).toNat)
  case atStart => exact ⟨0, _, Nat.zero_le _, rfl, rfl, cpS_zero ss n⟩
  case round =>
    obtain ⟨k, cs, hk, rfl, rfl, hcs⟩ := hrel
    by_cases hlt : k < n
    · have hcell : cs[k]? = some (.string ByteArray.empty) := by rw [hcs.out, cpS_get ss n k k hlt]; simp
      have hsz : cs.size = n := by rw [hcs.out, cpS_size]
      obtain ⟨s, hs⟩ : ∃ s, s = ss.getD k ByteArray.empty := ⟨_, rfl⟩
      have HL : Hid (cs.setIfInBounds k (.string s) = cpS ss n (k + 1)) := (show _ = _ by rw [hs, hcs.out]; exact cpS_set ss n k hlt)
      have hrd : w.cell? ⟨b, off + k, none⟩ = some (.string s) := by rw [hs]; exact HC.out k hlt
      clear hs
      go_wp2
      all_goals
        go_roundw
        case rel => exact ⟨k + 1, _, by omega, by go_num, rfl, HL⟩
        case measure => simp [intOf]; omega
    · have e : k = n := by omega
      subst e
      go_wp2
      go_ret
      exact ⟨rfl, by rw [hcs.out]⟩
set_option maxHeartbeats 400000 in
theorem cloneS_empty (w : World) (x : Addr) (cap : Nat) :
    Calls Try.prog 25 #[.slice (some x) 0 cap] w fun e w' => e = .returned (.slice (some ⟨w.heap.size, 0, none⟩) 0 0) ∧ w.alloc (.cells (cpS [] 0 0) 9) = w' := by
  have q39 : ∀ (w : World) (a : Option Addr) (n c n' c' : Nat), (binOp .eql 39 (.slice a n c) (.slice none n' c')).run Try.prog w = .ok (.bool a.isNone) w := fun w a n c n' c' => Lib.run_eql_slice_nil w _ _ a n c n' c' Try.underlying39
  have hmk : ∀ w : World, (Instr.makeSlice 39 (.int .i64 0) (.int .i64 0)).run Try.prog w = .ok (.slice (some ⟨w.heap.size, 0, none⟩) 0 0) (w.alloc (.cells (cpS [] 0 0) 9)) := fun w => by rw [← cpS_zero]; exact run_make_row' (P := Try.prog) 39 9 (.string ByteArray.empty) 16 Try.underlying39 info9 rfl .i64 .i64 0 (by omega) (by omega) w
  go_enter Try.func25, Try.ntmps25
  go_wp2
  refine wp_loop_rounds 1 ?_
  rw [rounds_succ]
  go_wp2
  go_ret
  exact ⟨rfl, rfl⟩

/-! ### the two tests on sizes -/
/-- It answered one bool. -/
def AnsB (e : Ending) : Prop := ∃ c : Bool, e = .returned (.bool c)
/-- What msgsTooBig lets by. -/
def SmallM (ms : List (List UInt8)) (n : Nat) : Prop := n ≤ 4096 ∧ totTo ms n ≤ 1048576
/-- It answered one bool, and where that is false P holds. -/
def AnsT (e : Ending) (P : Prop) : Prop := ∃ c : Bool, e = .returned (.bool c) ∧ (c = false → P)
set_option maxHeartbeats 400000 in
theorem zb23_any (w : World) (b off n cap : Nat) (ss : List ByteArray) (hm : n ≤ 9223372036854775807) (hc : ∀ i, i < n → w.cell? ⟨b, off + i, none⟩ = some (.string (ss.getD i ByteArray.empty))) :
    Calls Try.prog 23 #[.slice (some ⟨b, off, none⟩) n cap] w fun e w' => AnsB e ∧ w = w' := by
  have HC : Hid (∀ i, i < n → w.cell? ⟨b, off + i, none⟩ = some (.string (ss.getD i ByteArray.empty))) := hc
  clear hc
  by_cases hbig : 1048576 < n
  · go_enter Try.func23, Try.ntmps23
    go_wp2
    go_ret
    exact ⟨⟨_, rfl⟩, rfl⟩
  · go_enter Try.func23, Try.ntmps23
    go_wp2
    go_loop [3, 4] (fun t i => ∃ (k T : Nat), k ≤ n ∧ i = .int .i64 k ∧ t = .int .i64 T ∧ T ≤ 1048576) (fun _ i => n - (intOf i).toNat)
    case atStart => exact ⟨0, n, Nat.zero_le _, rfl, rfl, by omega⟩
    case round =>
      obtain ⟨k, T, hk, rfl, rfl, hT⟩ := hrel
      by_cases hlt : k < n
      · obtain ⟨s, hs⟩ : ∃ s, s = ss.getD k ByteArray.empty := ⟨_, rfl⟩
        have hrd : w.cell? ⟨b, off + k, none⟩ = some (.string s) := by rw [hs]; exact HC.out k hlt
        clear hs
        by_cases h1 : 1048576 < s.size
        · go_wp2
          go_ret
          exact ⟨⟨_, rfl⟩, rfl⟩
        · by_cases h2 : 1048576 < T + s.size
          · go_wp2
            go_ret
            exact ⟨⟨_, rfl⟩, rfl⟩
          · go_wp2
            go_round
            case rel => exact ⟨k + 1, T + s.size, by omega, by go_num, by go_num, by omega⟩
            case measure => simp [intOf]; omega
      · go_wp2
        go_ret
        exact ⟨⟨_, rfl⟩, rfl⟩
set_option maxHeartbeats 400000 in
theorem big24_any (w : World) (b off n cap : Nat) (ss : List ByteArray) (ms : List (List UInt8)) (hm : n ≤ 9223372036854775807) (hms : ∀ i, i < n → ms.getD i [] = (ss.getD i ByteArray.empty).data.toList) (hc : ∀ i, i < n → w.cell? ⟨b, off + i, none⟩ = some (.string (ss.getD i ByteArray.empty))) :
    Calls Try.prog 24 #[.slice (some ⟨b, off, none⟩) n cap] w fun e w' => AnsT e (SmallM ms n) ∧ w = w' := by
  have HC : Hid (∀ i, i < n → w.cell? ⟨b, off + i, none⟩ = some (.string (ss.getD i ByteArray.empty))) := hc
  have HM : Hid (∀ i, i < n → ms.getD i [] = (ss.getD i ByteArray.empty).data.toList) := hms
  clear hc hms
  by_cases hbig : 4096 < n
  · go_enter Try.func24, Try.ntmps24
    go_wp2
    go_ret
    exact ⟨⟨true, rfl, fun h => by cases h⟩, rfl⟩
  · go_enter Try.func24, Try.ntmps24
    go_wp2
    go_loop [3, 4] (fun t i => ∃ k : Nat, k ≤ n ∧ i = .int .i64 k ∧ t = .int .i64 (totTo ms k) ∧ totTo ms k ≤ 1048576) (fun _ i => n - (intOf i).toNat)
    case atStart => exact ⟨0, Nat.zero_le _, rfl, rfl, by simp [totTo]⟩
    case round =>
      obtain ⟨k, hk, rfl, rfl, hT⟩ := hrel
      by_cases hlt : k < n
      · obtain ⟨s, hs⟩ : ∃ s, s = ss.getD k ByteArray.empty := ⟨_, rfl⟩
        have hrd : w.cell? ⟨b, off + k, none⟩ = some (.string s) := by rw [hs]; exact HC.out k hlt
        have HT : Hid (totTo ms (k + 1) = totTo ms k + 16 + s.size) := (show _ = _ by
          simp only [totTo]
          rw [HM.out k hlt, ← hs, Array.length_toList]; rfl)
        clear hs
        by_cases h1 : 1048576 < s.size
        · go_wp2
          go_ret
          exact ⟨⟨true, rfl, fun h => by cases h⟩, rfl⟩
        · by_cases h2 : 1048576 < totTo ms k + 16 + s.size
          · go_wp2
            go_ret
            exact ⟨⟨true, rfl, fun h => by cases h⟩, rfl⟩
          · go_wp2
            go_round
            case rel => exact ⟨k + 1, by omega, by go_num, by rw [HT.out]; go_num, by rw [HT.out]; omega⟩
            case measure => simp [intOf]; omega
      · obtain rfl : k = n := by omega
        go_wp2
        go_ret
        exact ⟨⟨false, rfl, fun _ => ⟨by omega, hT⟩⟩, rfl⟩
end Go.Proofs.Qxb6000613a
