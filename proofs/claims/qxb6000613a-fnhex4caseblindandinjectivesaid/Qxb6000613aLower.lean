/-
  lowerASCII of the laws as a plain function (low), and the walk that shows it. By an AI agent. No person has read it.
-/
import Derived.Test.Qxb6000613aHexLaws
import Derived.Deep.OwnRows
namespace Go.Proofs.Qxb6000613a
open Go.RowKit

theorem info5 : (Try.prog.info? 5).map (fun i => (i.zero, i.size, i.bytes)) = some (some (.int .u8 0), 1, 1) := by kernel_rfl

def lw (c : Int) : Int := if 65 ≤ c ∧ c ≤ 90 then c + 32 else c
theorem lw_bd {c : Int} (h : 0 ≤ c ∧ c ≤ 255) : 0 ≤ lw c ∧ lw c ≤ 255 := by unfold lw; split <;> omega
def lowTo (s : ByteArray) (k : Nat) : List Int := (List.range s.size).map fun j => if j < k then lw (bt s j) else 0
def low (s : ByteArray) : ByteArray := strOfNums (lowTo s s.size)
theorem lowTo_length (s : ByteArray) (k : Nat) : (lowTo s k).length = s.size := by simp [lowTo]
theorem lowTo_get (s : ByteArray) (k j : Nat) (h : j < s.size) : (lowTo s k)[j]? = some (if j < k then lw (bt s j) else 0) := by
  simp [lowTo, h]
def lowCells (s : ByteArray) (k : Nat) : Array Value := ((lowTo s k).map (Value.int .u8)).toArray
theorem lowCells_size (s : ByteArray) (k : Nat) : (lowCells s k).size = s.size := by simp [lowCells, lowTo_length]
theorem lowCells_get (s : ByteArray) (k j : Nat) (h : j < s.size) : (lowCells s k)[j]? = some (.int .u8 (if j < k then lw (bt s j) else 0)) := by
  simp [lowCells, lowTo_get s k j h]
theorem lowCells_set (s : ByteArray) (k : Nat) (_h : k < s.size) : (lowCells s k).setIfInBounds k (.int .u8 (lw (bt s k))) = lowCells s (k + 1) := by
  apply Array.ext_getElem?
  intro j
  rw [Array.getElem?_setIfInBounds]
  by_cases hj : j < s.size
  · rw [lowCells_get s (k + 1) j hj, lowCells_get s k j hj, lowCells_size]
    by_cases e : k = j
    · subst e; simp [hj]
    · rw [if_neg e]
      by_cases h2 : j < k
      · rw [if_pos h2, if_pos (by omega)]
      · rw [if_neg h2, if_neg (by omega)]
  · have e1 : (lowCells s (k + 1))[j]? = none := by rw [Array.getElem?_eq_none]; rw [lowCells_size]; omega
    have e2 : (lowCells s k)[j]? = none := by rw [Array.getElem?_eq_none]; rw [lowCells_size]; omega
    rw [e1, e2, if_neg (by omega)]
theorem lowCells_zero (s : ByteArray) : madeCells #[Value.int .u8 0] s.size = lowCells s 0 := by
  rw [← Array.toList_inj, toList_madeCells_one]
  apply List.ext_getElem?
  intro j
  by_cases hj : j < s.size
  · simp [lowCells, lowTo_get s 0 j hj, hj]
  · simp [lowCells, lowTo, hj]

set_option maxHeartbeats 400000 in
theorem lower_any (s : ByteArray) (w : World) (hs : s.size ≤ 1048576) :
    Calls Try.prog 16 #[.string s] w fun e w' => ∃ cs, e = .returned (.string (low s)) ∧ w' = w.alloc (.cells cs 5) := by
  have hmk := fun w => run_make_row' (P := Try.prog) 26 5 (.int .u8 0) 1 Try.underlying26 info5 rfl .i64 .i64 s.size (by omega) (by omega) w
  go_enter Try.func16, Try.ntmps16
  go_wp2
  go_loopw [4] (fun i wr => ∃ (k : Nat) (cs : Array Value), k ≤ s.size ∧ i = .int .i64 k ∧ wr = w.alloc (.cells cs 5) ∧ Hid (cs = lowCells s k)) (fun i _ => s.size - (intOf i).toNat)
  case atStart => exact ⟨0, _, Nat.zero_le _, rfl, rfl, lowCells_zero s⟩
  case round =>
    obtain ⟨k, cs, hk, rfl, rfl, hcs⟩ := hrel
    have hb := get_bt s
    have hbd := bt_bd s k
    by_cases hlt : k < s.size
    · have hcell : cs[k]? = some (.int .u8 0) := by rw [hcs.out, lowCells_get s k k hlt]; simp
      have hsz : cs.size = s.size := by rw [hcs.out, lowCells_size]
      have HL : Hid (∀ x, x = lw (bt s k) → cs.setIfInBounds k (.int .u8 x) = lowCells s (k + 1)) := fun x hx => by rw [hx, hcs.out]; exact lowCells_set s k hlt
      go_wp2
      all_goals
        go_roundw
        case rel => exact ⟨k + 1, _, by omega, by go_num, rfl, HL.out _ (by unfold lw; split <;> omega)⟩
        case measure => simp [intOf]; omega
    · have e : k = s.size := by omega
      subst e
      have hcv := run_convert_bytes_arg (P := Try.prog) (w.alloc (.cells cs 5)) 26 5 Try.underlying26 Try.underlying5 w.heap.size 0 s.size s.size (lowTo s s.size) (lowTo_length s _) (fun i hi => by
        have h1 := lowCells_get s s.size i hi
        have h2 := lowTo_get s s.size i hi
        simp only [Nat.zero_add, World.cell?_alloc_at, List.getD]
        rw [hcs.out, h1, h2]
        rfl) 9 Try.underlying9
      go_wp2
      go_ret
      exact ⟨cs, rfl, rfl⟩
end Go.Proofs.Qxb6000613a
