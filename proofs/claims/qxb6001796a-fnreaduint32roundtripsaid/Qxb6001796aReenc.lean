/-
  FnReadUint32Reencodes: the walk of the long way. By an AI agent. No person has read it.
-/
import Derived.Test.Qxb6001796aParts
namespace Go.Proofs.Qxb6001796a
open Go.RowKit

theorem by0_le4 {c0 c1 c2 c3 : Int} (b0 : 0 ≤ c0 ∧ c0 ≤ 255) : by0 (le4 c0 c1 c2 c3) = c0 := by unfold by0 le4; omega
theorem by1_le4 {c0 c1 c2 c3 : Int} (b0 : 0 ≤ c0 ∧ c0 ≤ 255) (b1 : 0 ≤ c1 ∧ c1 ≤ 255) : by1 (le4 c0 c1 c2 c3) = c1 := by unfold by1 le4; omega
theorem by2_le4 {c0 c1 c2 c3 : Int} (b0 : 0 ≤ c0 ∧ c0 ≤ 255) (b1 : 0 ≤ c1 ∧ c1 ≤ 255) (b2 : 0 ≤ c2 ∧ c2 ≤ 255) : by2 (le4 c0 c1 c2 c3) = c2 := by unfold by2 le4; omega
theorem by3_le4 {c0 c1 c2 c3 : Int} (b0 : 0 ≤ c0 ∧ c0 ≤ 255) (b1 : 0 ≤ c1 ∧ c1 ≤ 255) (b2 : 0 ≤ c2 ∧ c2 ≤ 255) (b3 : 0 ≤ c3 ∧ c3 ≤ 255) : by3 (le4 c0 c1 c2 c3) = c3 := by unfold by3 le4; omega
theorem le4_bd {c0 c1 c2 c3 : Int} (b0 : 0 ≤ c0 ∧ c0 ≤ 255) (b1 : 0 ≤ c1 ∧ c1 ≤ 255) (b2 : 0 ≤ c2 ∧ c2 ≤ 255) (b3 : 0 ≤ c3 ∧ c3 ≤ 255) : 0 ≤ le4 c0 c1 c2 c3 ∧ le4 c0 c1 c2 c3 ≤ 4294967295 := by unfold le4; omega

theorem cp_cell (w : World) (zs : List Int) (n j : Nat) (h : j < n) : (w.alloc (.cells (cpC zs n n) 5)).cell? ⟨w.heap.size, j, none⟩ = some (.int .u8 (zs.getD j 0)) := by
  rw [World.cell?_alloc_at _ _ _ _ rfl, cpC_get zs n n j h, if_pos h]

set_option maxHeartbeats 2000000 in
theorem re_walk (b off n cap : Nat) (zs : List Int) (w : World) (hn : n ≤ 1048576) (h4 : 4 ≤ n) (hc : ∀ i, i < n → w.cell? ⟨b, off + i, none⟩ = some (.int .u8 (zs.getD i 0))) (hb : b < w.heap.size) (hz : ∀ i, 0 ≤ zs.getD i 0 ∧ zs.getD i 0 ≤ 255) :
    Calls Try.prog 4 #[.slice (some ⟨b, off, none⟩) n cap] w fun e w' => e = .returned (.bool true) ∧ Below w.heap.size w w' := by
  have HC : Hid (∀ i, i < n → w.cell? ⟨b, off + i, none⟩ = some (.int .u8 (zs.getD i 0))) := hc
  have b0 := hz 0
  have b1 := hz 1
  have b2 := hz 2
  have b3 := hz 3
  have q0 : (cpC zs n n)[0]? = some (.int .u8 (zs.getD 0 0)) := by rw [cpC_get zs n n 0 (by omega), if_pos (by omega)]
  have q1 : (cpC zs n n)[1]? = some (.int .u8 (zs.getD 1 0)) := by rw [cpC_get zs n n 1 (by omega), if_pos (by omega)]
  have q2 : (cpC zs n n)[2]? = some (.int .u8 (zs.getD 2 0)) := by rw [cpC_get zs n n 2 (by omega), if_pos (by omega)]
  have q3 : (cpC zs n n)[3]? = some (.int .u8 (zs.getD 3 0)) := by rw [cpC_get zs n n 3 (by omega), if_pos (by omega)]
  have HK : Hid (∀ j, j < n → (cpC zs n n)[j]? = some (.int .u8 (zs.getD j 0))) := fun j hj => by rw [cpC_get zs n n j hj, if_pos hj]
  have CLN : Hid (Calls Try.prog 6 #[.slice (some ⟨b, off, none⟩) n cap] w fun e w' => e = .returned (.slice (some ⟨w.heap.size, 0, none⟩) n n) ∧ w.alloc (.cells (cpC zs n n) 5) = w') := clone_row w b off n cap zs hn hc hb
  clear hc hz HC
  generalize zs.getD 0 0 = c0 at *
  generalize zs.getD 1 0 = c1 at *
  generalize zs.getD 2 0 = c2 at *
  generalize zs.getD 3 0 = c3 at *
  generalize cpC zs n n = cs at *
  have e0 := by0_le4 (c1 := c1) (c2 := c2) (c3 := c3) b0
  have e1 := by1_le4 (c2 := c2) (c3 := c3) b0 b1
  have e2 := by2_le4 (c3 := c3) b0 b1 b2
  have e3 := by3_le4 b0 b1 b2 b3
  have hle := le4_bd b0 b1 b2 b3
  have RD : Hid (Calls Try.prog 8 #[.slice (some ⟨w.heap.size, 0, none⟩) n n] (w.alloc (.cells cs 5)) fun e w' => e = .returned (.tuple #[.int .u32 (le4 c0 c1 c2 c3), restV w.heap.size n n, .bool false]) ∧ ∃ k, ((w.alloc (.cells cs 5)).alloc (.cells #[restV w.heap.size n n, .bool false] 34)).drewN k = w') :=
    read_any w.heap.size n n c0 c1 c2 c3 (w.alloc (.cells cs 5)) (by simp) h4 (Nat.le_refl _) (by omega) (by rw [World.cell?_alloc_at _ _ _ _ rfl]; exact q0) (by rw [World.cell?_alloc_at _ _ _ _ rfl]; exact q1) (by rw [World.cell?_alloc_at _ _ _ _ rfl]; exact q2) (by rw [World.cell?_alloc_at _ _ _ _ rfl]; exact q3) b0 b1 b2 b3
  generalize le4 c0 c1 c2 c3 = V at *
  by_cases hn4 : n = 4
  · subst hn4
    have HR : restV w.heap.size 4 4 = .slice (some ⟨w.heap.size, 0, none⟩) 0 0 := rfl
    rw [HR] at RD
    clear HR
    go_enter Try.func4, Try.ntmps4
    go_wp2_with (first | (go_at_call 6; refine CLN.out.mono ?_; rintro e w1 ⟨rfl, rfl⟩) | (go_at_call 8; refine RD.out.mono ?_; rintro e w1 ⟨rfl, k, rfl⟩) | (go_at_call 7; refine (le32_any V _ hle).mono ?_; rintro e w1 ⟨rfl, d1, d2, rfl⟩) | go_in)
    go_quiet (fail)
    go_wp2_with fail
    refine (same_nil _ _ _ _ _).mono ?_
    rintro e w1 ⟨rfl, k2, rfl⟩
    go_wp2
    go_ret
    exact ⟨rfl, by repeat' (first | exact Below.refl _ _ | refine below_drewN ?_ _ | refine Below.alloc ?_ ?_ _ | (simp; done) | (simp; omega))⟩
  · have HR : restV w.heap.size n n = .slice (some ⟨w.heap.size, 4, none⟩) (n - 4) (n - 4) := by unfold restV; rw [if_neg hn4]
    rw [HR] at RD
    clear HR
    go_enter Try.func4, Try.ntmps4
    go_wp2_with (first | (go_at_call 6; refine CLN.out.mono ?_; rintro e w1 ⟨rfl, rfl⟩) | (go_at_call 8; refine RD.out.mono ?_; rintro e w1 ⟨rfl, k, rfl⟩) | (go_at_call 7; refine (le32_any V _ hle).mono ?_; rintro e w1 ⟨rfl, d1, d2, rfl⟩) | go_in)
    go_quiet (fail)
    go_wp2_with fail
    refine (same_row _ 4 _ _ 4 _ (n - 4) (fun i => zs.getD (4 + i) 0) _ (by omega) ?_ ?_).mono ?_
    · intro i hi
      have := HK.out (4 + i) (by omega)
      simpa [go_sem] using this
    · intro i hi
      have := HK.out (4 + i) (by omega)
      simpa [go_sem] using this
    rintro e w1 ⟨rfl, k2, rfl⟩
    go_wp2
    go_ret
    exact ⟨rfl, by repeat' (first | exact Below.refl _ _ | refine below_drewN ?_ _ | refine Below.alloc ?_ ?_ _ | (simp; done) | (simp; omega))⟩
end Go.Proofs.Qxb6001796a
