/-
  jsonScanner's take and digits: the walks. By an AI agent. No person has read it.
-/
import Derived.Test.Qxb6000613aNumPlain
import Derived.Deep.RegionWith
import Derived.Deep.QuietTactic
import Derived.BigQuiet
import Derived.Deep.DeepCutAuto
import Derived.Deep.LoopGhost
import Derived.WalkSmall
namespace Go.Proofs.Qxb6000613a
open Go.RowKit

/-- Block B of w is a jsonScanner over s at p (its depth is whatever it is). -/
structure Sc (B : Nat) (s : ByteArray) (p : Nat) (w : World) : Prop where
  d : w.cell? ⟨B, 0, none⟩ = some (.string s)
  p : w.cell? ⟨B, 1, none⟩ = some (.int .i64 p)
  f : w.frozen? ⟨B, 1, none⟩ = false
  lt : B < w.heap.size

theorem Sc.drewN {B : Nat} {s : ByteArray} {p : Nat} {w : World} (h : Sc B s p w) (n : Nat) : Sc B s p (w.drewN n) := ⟨h.d, h.p, h.f, h.lt⟩
theorem Sc.store {B : Nat} {s : ByteArray} {p : Nat} {w : World} (h : Sc B s p w) (q : Nat) : Sc B s q (w.setCell ⟨B, 1, none⟩ (.int .i64 q)) :=
  ⟨(World.cell?_setCell_other _ _ _ _ (by simp)).trans h.d, World.cell?_setCell_same _ _ _ h.p, by rw [World.frozen?_setCell]; exact h.f, by simpa using h.lt⟩
theorem Sc.store' {B : Nat} {s : ByteArray} {p : Nat} {w : World} (h : Sc B s p w) (n q : Nat) (x : Int) (e : x = q) : Sc B s q ((w.drewN n).setCell ⟨B, 1, none⟩ (.int .i64 x)) := by
  rw [e]; exact (h.drewN n).store q
theorem below_store {B : Nat} {w : World} (n : Nat) (v : Value) : Below B w ((w.drewN n).setCell ⟨B, 1, none⟩ v) :=
  (below_drewN (Below.refl B w) n).setCell (p := ⟨B, 1, none⟩) (Nat.le_refl B) v

set_option maxHeartbeats 400000 in
theorem take_yes (B : Nat) (s : ByteArray) (p : Nat) (c : Int) (w : World) (h : Sc B s p w) (hs : s.size ≤ 2097152) (hp : p < s.size) (hc : bt s p = c) :
    Calls Try.prog 32 #[.pointer (some ⟨B, 0, none⟩), .int .u8 c] w fun e w' => e = .returned (.bool true) ∧ Sc B s (p + 1) w' ∧ Below B w w' := by
  have H : Hid (Sc B s p w) := h
  obtain ⟨h1, h2, h3, h4⟩ := h
  have hb := get_bt s
  have e : (bt s p == c) = true := by simp [hc]
  have HC : Hid (bt s p = c) := hc
  clear hc
  go_enter Try.func32, Try.ntmps32
  go_wp2
  go_quiet (fail)
  go_wp2
  go_ret
  exact ⟨rfl, H.out.store' _ _ _ (by omega), below_store _ _⟩
set_option maxHeartbeats 400000 in
theorem take_no (B : Nat) (s : ByteArray) (p : Nat) (c : Int) (w : World) (h : Sc B s p w) (hp : p < s.size) (hc : bt s p ≠ c) :
    Calls Try.prog 32 #[.pointer (some ⟨B, 0, none⟩), .int .u8 c] w fun e w' => e = .returned (.bool false) ∧ Sc B s p w' ∧ Below B w w' := by
  have H : Hid (Sc B s p w) := h
  obtain ⟨h1, h2, h3, h4⟩ := h
  have hb := get_bt s
  have e : (bt s p == c) = false := by simp [hc]
  clear hc
  go_enter Try.func32, Try.ntmps32
  go_wp2
  go_quiet (fail)
  go_wp2
  go_ret
  exact ⟨rfl, H.out.drewN _, below_drewN (Below.refl _ _) _⟩
set_option maxHeartbeats 400000 in
theorem take_out (B : Nat) (s : ByteArray) (p : Nat) (c : Int) (w : World) (h : Sc B s p w) (hp : s.size ≤ p) :
    Calls Try.prog 32 #[.pointer (some ⟨B, 0, none⟩), .int .u8 c] w fun e w' => e = .returned (.bool false) ∧ Sc B s p w' ∧ Below B w w' := by
  have H : Hid (Sc B s p w) := h
  obtain ⟨h1, h2, h3, h4⟩ := h
  have hd : ¬ p < s.size := by omega
  have hd2 : decide (p < s.size) = false := by simp; omega
  go_enter Try.func32, Try.ntmps32
  go_wp2
  go_quiet (fail)
  go_wp2
  go_ret
  exact ⟨rfl, H.out.drewN _, below_drewN (Below.refl _ _) _⟩
theorem take_any (B : Nat) (s : ByteArray) (p : Nat) (c : Int) (w : World) (h : Sc B s p w) (hs : s.size ≤ 2097152) (hc : c ≠ 0) :
    Calls Try.prog 32 #[.pointer (some ⟨B, 0, none⟩), .int .u8 c] w fun e w' => e = .returned (.bool (tkB s p c)) ∧ Sc B s (tkP s p c) w' ∧ Below B w w' := by
  by_cases h1 : bt s p = c
  · have e1 : tkB s p c = true := by unfold tkB; simp [h1]
    have e2 : tkP s p c = p + 1 := by unfold tkP; simp [h1]
    rw [e1, e2]
    exact take_yes B s p c w h hs (bt_in (by rw [h1]; exact hc)) h1
  · have e1 : tkB s p c = false := by unfold tkB; simp [h1]
    have e2 : tkP s p c = p := by unfold tkP; simp [h1]
    rw [e1, e2]
    rcases Nat.lt_or_ge p s.size with h2 | h2
    · exact take_no B s p c w h h2 h1
    · exact take_out B s p c w h h2

set_option maxHeartbeats 1000000 in
theorem digits_any (B : Nat) (s : ByteArray) (p : Nat) (w : World) (h : Sc B s p w) (hs : s.size ≤ 2097152) (hp : p ≤ s.size) :
    Calls Try.prog 33 #[.pointer (some ⟨B, 0, none⟩)] w fun e w' => ∃ q : Nat, e = .returned (.int .i64 ((q : Int) - p)) ∧ DgTo s p q ∧ q ≤ s.size ∧ Sc B s q w' ∧ Below B w w' := by
  have h2 := h.p
  have H : Hid (Sc B s p w) := h
  clear h
  go_enter Try.func33, Try.ntmps33
  go_wp2
  go_loopg [8] (s.size - p) (fun g _ wr => ∃ q : Nat, p ≤ q ∧ q ≤ s.size ∧ g = s.size - q ∧ Hid (∀ j, p ≤ j → j < q → isD (bt s j)) ∧ Hid (Sc B s q wr) ∧ Hid (Below B w wr))
  case atStart => exact ⟨p, Nat.le_refl _, hp, rfl, fun j h1 h2 => by omega, H, Below.refl _ _⟩
  case round =>
    obtain ⟨q, hpq, hq, rfl, hall, hsc, hbl⟩ := hrel
    have g1 := hsc.out.d
    have g2 := hsc.out.p
    have g3 := hsc.out.f
    have g4 := hsc.out.lt
    have hb := get_bt s
    by_cases hin : q < s.size
    · by_cases c1 : 48 ≤ bt s q
      · by_cases c2 : bt s q ≤ 57
        · go_wp2
          go_quiet (fail)
          go_wp2
          go_roundg (s.size - (q + 1))
          case measure => omega
          case rel =>
            refine ⟨q + 1, by omega, by omega, rfl, ?_, hsc.out.store' _ _ _ (by omega), hbl.out.trans (below_store _ _)⟩
            intro j h1 h2
            by_cases e : j = q
            · rw [e]; exact ⟨c1, c2⟩
            · exact hall.out j h1 (by omega)
        · have hst : Hid (¬ isD (bt s q)) := fun h => c2 h.2
          have c3 : decide (bt s q ≤ 57) = false := by simpa using c2
          go_wp2
          go_quiet (fail)
          go_wp2
          go_ret
          exact ⟨q, rfl, ⟨hpq, hall.out, hst.out⟩, hq, hsc.out.drewN _, below_drewN hbl.out _⟩
      · have hst : Hid (¬ isD (bt s q)) := fun h => c1 h.1
        have c3 : decide (48 ≤ bt s q) = false := by simpa using c1
        go_wp2
        go_quiet (fail)
        go_wp2
        go_ret
        exact ⟨q, rfl, ⟨hpq, hall.out, hst.out⟩, hq, hsc.out.drewN _, below_drewN hbl.out _⟩
    · have hst : Hid (¬ isD (bt s q)) := fun h => by rw [bt_out (show s.size ≤ q by omega)] at h; exact absurd h.1 (by decide)
      have c3 : decide (q < s.size) = false := by simpa using hin
      go_wp2
      go_quiet (fail)
      go_wp2
      go_ret
      exact ⟨q, rfl, ⟨hpq, hall.out, hst.out⟩, hq, hsc.out.drewN _, below_drewN hbl.out _⟩
end Go.Proofs.Qxb6000613a
