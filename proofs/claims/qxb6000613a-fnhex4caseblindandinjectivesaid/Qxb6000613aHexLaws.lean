/-
  Plain laws of hx (hex4). By an AI agent. No person has read it.
-/
import Derived.Test.Qxb6000613aIsHex
namespace Go.Proofs.Qxb6000613a
open Go.RowKit

theorem bt_take4 (b : ByteArray) (h : 4 ≤ b.size) (k : Nat) (hk : k < 4) : bt (b.extract 0 4) k = bt b k := by
  unfold bt
  have h1 : k < (b.extract 0 4).size := by simp; omega
  rw [dif_pos h1, dif_pos (show k < b.size by omega)]
  simp [ByteArray.getElem_extract]
theorem acc_congr (a b : ByteArray) : ∀ k, (∀ j, j < k → hv (bt a j) = hv (bt b j)) → acc a k = acc b k
  | 0, _ => rfl
  | k + 1, h => by
    simp only [acc]
    rw [acc_congr a b k (fun j hj => h j (by omega)), h k (by omega)]
theorem hx_congr {a b : ByteArray} (h1 : 4 ≤ a.size ↔ 4 ≤ b.size) (h : ∀ j, j < 4 → hv (bt a j) = hv (bt b j)) : hx a = hx b := by
  unfold hx
  rw [acc_congr a b 4 h, h 0 (by omega), h 1 (by omega), h 2 (by omega), h 3 (by omega)]
  simp only [h1]
theorem hx_take4 (b : ByteArray) (h : 4 ≤ b.size) : hx (b.extract 0 4) = hx b :=
  hx_congr (by simp; omega) (fun j hj => by rw [bt_take4 b h j hj])
theorem hx_all {b : ByteArray} (h : 4 ≤ b.size) (h0 : isHexB (bt b 0) = true) (h1 : isHexB (bt b 1) = true) (h2 : isHexB (bt b 2) = true) (h3 : isHexB (bt b 3) = true) :
    0 ≤ hx b ∧ hx b ≤ 65535 := by
  unfold isHexB at *
  rw [decide_eq_true_iff] at *
  have hok : okTo b 4 := fun j hj => by
    obtain rfl | rfl | rfl | rfl : j = 0 ∨ j = 1 ∨ j = 2 ∨ j = 3 := by omega
    all_goals assumption
  rw [hx_good h hok]
  have := acc_bd b 4 hok
  simp at this
  omega
theorem hx_not {b : ByteArray} {k : Nat} (hk : k < 4) (h : isHexB (bt b k) = false) : hx b = -1 := by
  unfold isHexB at h
  rw [decide_eq_false_iff_not] at h
  exact hx_bad hk (by omega)

end Go.Proofs.Qxb6000613a
