/-
  zzb1cloneBytes, zzb1le32, ZZReadUint32, zzb1sameBytes: the walks. By an AI agent. No person has read it.
-/
import Derived.Test.Qxb6001796aRows
import Derived.WalkKit
import Derived.ProofKit
import Derived.Deep.OwnRows
import Derived.Deep.RegionWith
import Derived.Deep.QuietTactic
import Derived.BigQuiet
import Derived.WalkSmall
import Derived.WalkLawsBesides
namespace Go.Proofs.Qxb6001796a
open Go.RowKit

theorem info5 : (Try.prog.info? 5).map (fun i => (i.zero, i.size, i.bytes)) = some (some (.int .u8 0), 1, 1) := by kernel_rfl

/-- A row of n bytes: the first k are zs', the rest 0. -/
def cpC (zs : List Int) (n k : Nat) : Array Value := ((List.range n).map fun j => Value.int .u8 (if j < k then zs.getD j 0 else 0)).toArray
theorem cpC_size (zs : List Int) (n k : Nat) : (cpC zs n k).size = n := by simp [cpC]
theorem cpC_get (zs : List Int) (n k j : Nat) (h : j < n) : (cpC zs n k)[j]? = some (.int .u8 (if j < k then zs.getD j 0 else 0)) := by simp [cpC, h]
theorem cpC_set (zs : List Int) (n k : Nat) (_h : k < n) : (cpC zs n k).setIfInBounds k (.int .u8 (zs.getD k 0)) = cpC zs n (k + 1) := by
  apply Array.ext_getElem?
  intro j
  rw [Array.getElem?_setIfInBounds]
  by_cases hj : j < n
  · rw [cpC_get zs n (k + 1) j hj, cpC_get zs n k j hj, cpC_size]
    by_cases e : k = j
    · subst e; simp [hj]
    · rw [if_neg e]
      by_cases h2 : j < k
      · rw [if_pos h2, if_pos (by omega)]
      · rw [if_neg h2, if_neg (by omega)]
  · have e1 : (cpC zs n (k + 1))[j]? = none := by rw [Array.getElem?_eq_none]; rw [cpC_size]; omega
    have e2 : (cpC zs n k)[j]? = none := by rw [Array.getElem?_eq_none]; rw [cpC_size]; omega
    rw [e1, e2, if_neg (by omega)]
theorem cpC_zero (zs : List Int) (n : Nat) : madeCells #[Value.int .u8 0] n = cpC zs n 0 := by
  rw [← Array.toList_inj, toList_madeCells_one]
  apply List.ext_getElem?
  intro j
  by_cases hj : j < n
  · simp [cpC, hj]
  · simp [cpC, hj]

theorem clone_nil (w : World) : Calls Try.prog 6 #[.slice none 0 0] w fun e w' => e = .returned (.slice none 0 0) ∧ w = w' := by
  have q23 : ∀ (w : World) (a : Option Addr) (n c n' c' : Nat), (binOp .eql 23 (.slice a n c) (.slice none n' c')).run Try.prog w = .ok (.bool a.isNone) w := fun w a n c n' c' => Lib.run_eql_slice_nil w _ _ a n c n' c' Try.underlying23
  go_enter Try.func6, Try.ntmps6
  go_wp2
  go_ret
  exact ⟨rfl, rfl⟩

set_option maxHeartbeats 400000 in
theorem clone_row (w : World) (b off n cap : Nat) (zs : List Int) (hn : n ≤ 1048576) (hc : ∀ i, i < n → w.cell? ⟨b, off + i, none⟩ = some (.int .u8 (zs.getD i 0))) (hb : b < w.heap.size) :
    Calls Try.prog 6 #[.slice (some ⟨b, off, none⟩) n cap] w fun e w' => e = .returned (.slice (some ⟨w.heap.size, 0, none⟩) n n) ∧ w.alloc (.cells (cpC zs n n) 5) = w' := by
  have q23 : ∀ (w : World) (a : Option Addr) (n c n' c' : Nat), (binOp .eql 23 (.slice a n c) (.slice none n' c')).run Try.prog w = .ok (.bool a.isNone) w := fun w a n c n' c' => Lib.run_eql_slice_nil w _ _ a n c n' c' Try.underlying23
  have hmk := fun w => run_make_row' (P := Try.prog) 23 5 (.int .u8 0) 1 Try.underlying23 info5 rfl .i64 .i64 n (by omega) (by omega) w
  have HC : Hid (∀ i, i < n → w.cell? ⟨b, off + i, none⟩ = some (.int .u8 (zs.getD i 0))) := hc
  clear hc
  go_enter Try.func6, Try.ntmps6
  go_wp2
  go_loopw [4] (fun i wr => ∃ (k : Nat) (cs : Array Value), k ≤ n ∧ i = .int .i64 k ∧ wr = w.alloc (.cells cs 5) ∧ Hid (cs = cpC zs n k)) (fun i _ => n - (intOf i).toNat)
  case atStart => exact ⟨0, _, Nat.zero_le _, rfl, rfl, cpC_zero zs n⟩
  case round =>
    obtain ⟨k, cs, hk, rfl, rfl, hcs⟩ := hrel
    by_cases hlt : k < n
    · have hcell : cs[k]? = some (.int .u8 0) := by rw [hcs.out, cpC_get zs n k k hlt]; simp
      have hsz : cs.size = n := by rw [hcs.out, cpC_size]
      have HL : Hid (cs.setIfInBounds k (.int .u8 (zs.getD k 0)) = cpC zs n (k + 1)) := (show _ = _ by rw [hcs.out]; exact cpC_set zs n k hlt)
      have hrd : w.cell? ⟨b, off + k, none⟩ = some (.int .u8 (zs.getD k 0)) := HC.out k hlt
      go_wp2
      all_goals
        go_roundw
        case rel => exact ⟨k + 1, _, by omega, by go_num, rfl, HL⟩
        case measure => simp [intOf]; omega
    · have e : k = n := by omega
      subst e
      go_wp2
      go_ret
      exact ⟨rfl, by rw [hcs.out]⟩
set_option maxHeartbeats 400000 in
theorem clone_empty (w : World) (x : Addr) (cap : Nat) :
    Calls Try.prog 6 #[.slice (some x) 0 cap] w fun e w' => e = .returned (.slice (some ⟨w.heap.size, 0, none⟩) 0 0) ∧ w.alloc (.cells (cpC [] 0 0) 5) = w' := by
  have q23 : ∀ (w : World) (a : Option Addr) (n c n' c' : Nat), (binOp .eql 23 (.slice a n c) (.slice none n' c')).run Try.prog w = .ok (.bool a.isNone) w := fun w a n c n' c' => Lib.run_eql_slice_nil w _ _ a n c n' c' Try.underlying23
  have hmk : ∀ w : World, (Instr.makeSlice 23 (.int .i64 0) (.int .i64 0)).run Try.prog w = .ok (.slice (some ⟨w.heap.size, 0, none⟩) 0 0) (w.alloc (.cells (cpC [] 0 0) 5)) := fun w => by rw [← cpC_zero]; exact run_make_row' (P := Try.prog) 23 5 (.int .u8 0) 1 Try.underlying23 info5 rfl .i64 .i64 0 (by omega) (by omega) w
  go_enter Try.func6, Try.ntmps6
  go_wp2
  refine wp_loop_rounds 1 ?_
  rw [rounds_succ]
  go_wp2
  go_ret
  exact ⟨rfl, rfl⟩

def by0 (v : Int) : Int := v % 256
def by1 (v : Int) : Int := v / 256 % 256
def by2 (v : Int) : Int := v / 65536 % 256
def by3 (v : Int) : Int := v / 16777216 % 256
theorem ret_u32 {a b : Int} (h : a = b) : Ending.returned (.int .u32 a) = .returned (.int .u32 b) := by rw [h]
theorem by3_is {v : Int} (hv : 0 ≤ v ∧ v ≤ 4294967295) : v / 16777216 = by3 v := by unfold by3; omega
set_option maxHeartbeats 400000 in
theorem le32_any (v : Int) (w : World) (hv : 0 ≤ v ∧ v ≤ 4294967295) :
    Calls Try.prog 7 #[.int .u32 v] w fun e w' => e = .returned (.agg #[.int .u8 (by0 v), .int .u8 (by1 v), .int .u8 (by2 v), .int .u8 (by3 v)]) ∧ ∃ c1 c2, (w.alloc (.cells c1 26)).alloc (.cells c2 26) = w' := by
  have H3 : Hid (v / 16777216 = by3 v) := by3_is hv
  go_enter Try.func7, Try.ntmps7
  go_wp2
  refine bodyPost_ret (v := .agg #[.int .u8 (v % 256), .int .u8 (v / 256 % 256), .int .u8 (v / 65536 % 256), .int .u8 (v / 16777216)]) (by simp [results, Try.results7, go_sem]) rfl ⟨?_, _, _, rfl⟩
  rw [H3.out]
  rfl

/-- What four bytes, the least first, write. -/
def le4 (c0 c1 c2 c3 : Int) : Int := c0 + c1 * 256 + c2 * 65536 + c3 * 16777216
theorem or4 {c0 c1 c2 c3 : Int} (b0 : 0 ≤ c0 ∧ c0 ≤ 255) (b1 : 0 ≤ c1 ∧ c1 ≤ 255) (b2 : 0 ≤ c2 ∧ c2 ≤ 255) (b3 : 0 ≤ c3 ∧ c3 ≤ 255) :
    bits .or .u32 (bits .or .u32 (bits .or .u32 c0 (c1 * 256)) (c2 * 65536)) (c3 * 16777216) = le4 c0 c1 c2 c3 := by
  obtain ⟨n0, rfl⟩ := Int.eq_ofNat_of_zero_le b0.1
  obtain ⟨n1, rfl⟩ := Int.eq_ofNat_of_zero_le b1.1
  obtain ⟨n2, rfl⟩ := Int.eq_ofNat_of_zero_le b2.1
  obtain ⟨n3, rfl⟩ := Int.eq_ofNat_of_zero_le b3.1
  have e1 : bits .or .u32 (n0 : Int) ((n1 : Int) * 256) = ((n1 * 256 + n0 : Nat) : Int) := by
    have := u32_or_nat n0 (n1 * 256) (by omega) (by omega)
    rw [Nat.or_comm, nat_join 8 (n1 * 256) n0 (by omega) (by omega)] at this
    simpa using this
  have e2 : bits .or .u32 ((n1 * 256 + n0 : Nat) : Int) ((n2 : Int) * 65536) = ((n2 * 65536 + (n1 * 256 + n0) : Nat) : Int) := by
    have := u32_or_nat (n1 * 256 + n0) (n2 * 65536) (by omega) (by omega)
    rw [Nat.or_comm, nat_join 16 (n2 * 65536) (n1 * 256 + n0) (by omega) (by omega)] at this
    simpa using this
  have e3 : bits .or .u32 ((n2 * 65536 + (n1 * 256 + n0) : Nat) : Int) ((n3 : Int) * 16777216) = ((n3 * 16777216 + (n2 * 65536 + (n1 * 256 + n0)) : Nat) : Int) := by
    have := u32_or_nat (n2 * 65536 + (n1 * 256 + n0)) (n3 * 16777216) (by omega) (by omega)
    rw [Nat.or_comm, nat_join 24 (n3 * 16777216) (n2 * 65536 + (n1 * 256 + n0)) (by omega) (by omega)] at this
    simpa using this
  rw [e1, e2, e3]
  unfold le4
  omega

/-- What is left of a slice of n bytes (room for cap) at the head of block g, four taken. -/
def restV (g n cap : Nat) : Value := if cap = 4 then .slice (some ⟨g, 0, none⟩) 0 0 else .slice (some ⟨g, 4, none⟩) (n - 4) (cap - 4)

set_option maxHeartbeats 1000000 in
theorem uint32_any (g n cap : Nat) (c0 c1 c2 c3 : Int) (w : World) (hg : g < w.heap.size) (hn : 4 ≤ n) (hcap : n ≤ cap) (hcm : cap ≤ 2097152)
    (h0 : w.cell? ⟨g, 0, none⟩ = some (.int .u8 c0)) (h1 : w.cell? ⟨g, 1, none⟩ = some (.int .u8 c1)) (h2 : w.cell? ⟨g, 2, none⟩ = some (.int .u8 c2)) (h3 : w.cell? ⟨g, 3, none⟩ = some (.int .u8 c3))
    (b0 : 0 ≤ c0 ∧ c0 ≤ 255) (b1 : 0 ≤ c1 ∧ c1 ≤ 255) (b2 : 0 ≤ c2 ∧ c2 ≤ 255) (b3 : 0 ≤ c3 ∧ c3 ≤ 255) :
    Calls Try.prog 11 #[.pointer (some ⟨w.heap.size, 0, none⟩)] (w.alloc (.cells #[.slice (some ⟨g, 0, none⟩) n cap, .bool false] 34)) fun e w' => e = .returned (.int .u32 (le4 c0 c1 c2 c3)) ∧ ∃ k, (w.alloc (.cells #[restV g n cap, .bool false] 34)).drewN k = w' := by
  have q23 : ∀ (w : World) (a : Option Addr) (n c n' c' : Nat), (binOp .eql 23 (.slice a n c) (.slice none n' c')).run Try.prog w = .ok (.bool a.isNone) w := fun w a n c n' c' => Lib.run_eql_slice_nil w _ _ a n c n' c' Try.underlying23
  have HO : Hid (bits .or .u32 (bits .or .u32 (bits .or .u32 c0 (c1 * 256)) (c2 * 65536)) (c3 * 16777216) = le4 c0 c1 c2 c3) := or4 b0 b1 b2 b3
  by_cases e4 : cap = 4
  · obtain rfl : n = 4 := by omega
    subst e4
    go_enter Try.func11, Try.ntmps11
    go_wp2
    go_quiet (fail)
    go_wp2
    go_ret
    exact ⟨ret_u32 HO.out, _, rfl⟩
  · have HR : Hid (restV g n cap = .slice (some ⟨g, 4, none⟩) (n - 4) (cap - 4)) := (show _ = _ by unfold restV; rw [if_neg e4])
    go_enter Try.func11, Try.ntmps11
    go_wp2
    go_quiet (fail)
    go_wp2
    go_ret
    exact ⟨ret_u32 HO.out, _, by rw [HR.out]⟩

set_option maxHeartbeats 1000000 in
theorem read_any (g n cap : Nat) (c0 c1 c2 c3 : Int) (w : World) (hg : g < w.heap.size) (hn : 4 ≤ n) (hcap : n ≤ cap) (hcm : cap ≤ 2097152)
    (h0 : w.cell? ⟨g, 0, none⟩ = some (.int .u8 c0)) (h1 : w.cell? ⟨g, 1, none⟩ = some (.int .u8 c1)) (h2 : w.cell? ⟨g, 2, none⟩ = some (.int .u8 c2)) (h3 : w.cell? ⟨g, 3, none⟩ = some (.int .u8 c3))
    (b0 : 0 ≤ c0 ∧ c0 ≤ 255) (b1 : 0 ≤ c1 ∧ c1 ≤ 255) (b2 : 0 ≤ c2 ∧ c2 ≤ 255) (b3 : 0 ≤ c3 ∧ c3 ≤ 255) :
    Calls Try.prog 8 #[.slice (some ⟨g, 0, none⟩) n cap] w fun e w' => e = .returned (.tuple #[.int .u32 (le4 c0 c1 c2 c3), restV g n cap, .bool false]) ∧ ∃ k, (w.alloc (.cells #[restV g n cap, .bool false] 34)).drewN k = w' := by
  go_enter Try.func8, Try.ntmps8
  go_wp2_with (go_at_call 11; refine (uint32_any g n cap c0 c1 c2 c3 w hg hn hcap hcm h0 h1 h2 h3 b0 b1 b2 b3).mono ?_; rintro e w2 ⟨rfl, k, rfl⟩)
  go_quiet (fail)
  go_wp2
  go_ret3
  exact ⟨rfl, k + nq, by rw [World.drewN_drewN]⟩

theorem same_nil (a b : Option Addr) (c d : Nat) (w : World) :
    Calls Try.prog 9 #[.slice a 0 c, .slice b 0 d] w fun e w' => e = .returned (.bool true) ∧ ∃ k, w.drewN k = w' := by
  go_enter Try.func9, Try.ntmps9
  go_wp2
  refine wp_loop_rounds 1 ?_
  rw [rounds_succ]
  go_wp2
  go_ret
  exact ⟨rfl, 0, rfl⟩

set_option maxHeartbeats 1000000 in
theorem same_row (b1 o1 c1 b2 o2 c2 n : Nat) (f : Nat → Int) (w : World) (hn : n ≤ 2097152)
    (h1 : ∀ i, i < n → w.cell? ⟨b1, o1 + i, none⟩ = some (.int .u8 (f i))) (h2 : ∀ i, i < n → w.cell? ⟨b2, o2 + i, none⟩ = some (.int .u8 (f i))) :
    Calls Try.prog 9 #[.slice (some ⟨b1, o1, none⟩) n c1, .slice (some ⟨b2, o2, none⟩) n c2] w fun e w' => e = .returned (.bool true) ∧ ∃ k, w.drewN k = w' := by
  have H1 : Hid (∀ i, i < n → w.cell? ⟨b1, o1 + i, none⟩ = some (.int .u8 (f i))) := h1
  have H2 : Hid (∀ i, i < n → w.cell? ⟨b2, o2 + i, none⟩ = some (.int .u8 (f i))) := h2
  clear h1 h2
  go_enter Try.func9, Try.ntmps9
  go_wp2
  go_loopw [5] (fun i wr => ∃ k m : Nat, k ≤ n ∧ i = .int .i64 k ∧ wr = w.drewN m) (fun i _ => n - (intOf i).toNat)
  case atStart => exact ⟨0, 0, Nat.zero_le _, rfl, rfl⟩
  case round =>
    obtain ⟨k, m, hk, rfl, rfl⟩ := hrel
    by_cases hlt : k < n
    · have g1 := H1.out k hlt
      have g2 := H2.out k hlt
      go_wp2
      go_quiet (fail)
      go_wp2
      go_roundw
      case rel => exact ⟨k + 1, _, by omega, by go_num, rfl⟩
      case measure => simp [intOf]; omega
    · go_wp2
      go_ret
      exact ⟨rfl, _, rfl⟩
end Go.Proofs.Qxb6001796a
