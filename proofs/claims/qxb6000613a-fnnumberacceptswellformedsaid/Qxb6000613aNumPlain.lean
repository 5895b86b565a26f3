/-
  The number automaton of the laws (numStep) as a plain function, its run (R), and what each part of jsonScanner.number means to it. No walk here. By an AI agent. No person has read it.
-/
import Derived.Test.Qxb6000613aHex
namespace Go.Proofs.Qxb6000613a
open Go.RowKit

theorem bt_out {s : ByteArray} {p : Nat} (h : s.size ≤ p) : bt s p = 0 := by unfold bt; rw [dif_neg (by omega)]
theorem bt_in {s : ByteArray} {p : Nat} (h : bt s p ≠ 0) : p < s.size := by
  rcases Nat.lt_or_ge p s.size with h1 | h1
  · exact h1
  · exact absurd (bt_out h1) h
def tkB (s : ByteArray) (p : Nat) (c : Int) : Bool := decide (bt s p = c)
def tkP (s : ByteArray) (p : Nat) (c : Int) : Nat := if bt s p = c then p + 1 else p
theorem tkB_true {s : ByteArray} {p : Nat} {c : Int} : tkB s p c = true ↔ bt s p = c := by unfold tkB; simp
theorem tkB_false {s : ByteArray} {p : Nat} {c : Int} : tkB s p c = false ↔ bt s p ≠ c := by unfold tkB; simp
theorem tkP_le {s : ByteArray} {p : Nat} {c : Int} (hp : p ≤ s.size) (hc : c ≠ 0) : tkP s p c ≤ s.size := by
  unfold tkP; split
  · rename_i h; have := bt_in (s := s) (p := p) (by rw [h]; exact hc); omega
  · exact hp
theorem tkP_yes {s : ByteArray} {p : Nat} {c : Int} (h : bt s p = c) : tkP s p c = p + 1 := by unfold tkP; rw [if_pos h]
theorem tkP_no {s : ByteArray} {p : Nat} {c : Int} (h : bt s p ≠ c) : tkP s p c = p := by unfold tkP; rw [if_neg h]

def isD (c : Int) : Prop := 48 ≤ c ∧ c ≤ 57
/-- From p on the digits end at q. -/
structure DgTo (s : ByteArray) (p q : Nat) : Prop where
  le : p ≤ q
  all : ∀ j, p ≤ j → j < q → isD (bt s j)
  stop : ¬ isD (bt s q)

/-- numStep. -/
def stepN (t c : Int) : Int :=
  if t = 0 then (if c = 45 then 1 else if c = 48 then 2 else if 48 ≤ c ∧ c ≤ 57 then 3 else -1)
  else if t = 1 then (if c = 48 then 2 else if 48 ≤ c ∧ c ≤ 57 then 3 else -1)
  else if t = 2 then (if c = 46 then 4 else if c = 101 ∨ c = 69 then 6 else -1)
  else if t = 3 then (if 48 ≤ c ∧ c ≤ 57 then 3 else if c = 46 then 4 else if c = 101 ∨ c = 69 then 6 else -1)
  else if t = 4 then (if 48 ≤ c ∧ c ≤ 57 then 5 else -1)
  else if t = 5 then (if 48 ≤ c ∧ c ≤ 57 then 5 else if c = 101 ∨ c = 69 then 6 else -1)
  else if t = 6 then (if c = 43 ∨ c = 45 then 7 else if 48 ≤ c ∧ c ≤ 57 then 8 else -1)
  else if t = 7 then (if 48 ≤ c ∧ c ≤ 57 then 8 else -1)
  else if t = 8 then (if 48 ≤ c ∧ c ≤ 57 then 8 else -1)
  else -1
def okB (t : Int) : Bool := decide (t = 2 ∨ t = 3 ∨ t = 5 ∨ t = 8)
theorem stepN_zero (t : Int) : stepN t 0 = -1 := by
  unfold stepN; repeat' split
  all_goals omega
theorem stepN_bd (t c : Int) : -1 ≤ stepN t c ∧ stepN t c ≤ 8 := by
  unfold stepN; repeat' split
  all_goals omega

theorem step3 (c : Int) : stepN 3 c = if 48 ≤ c ∧ c ≤ 57 then 3 else if c = 46 then 4 else if c = 101 ∨ c = 69 then 6 else -1 := rfl
theorem step2 (c : Int) : stepN 2 c = if c = 46 then 4 else if c = 101 ∨ c = 69 then 6 else -1 := rfl
theorem step4 (c : Int) : stepN 4 c = if 48 ≤ c ∧ c ≤ 57 then 5 else -1 := rfl
theorem step5 (c : Int) : stepN 5 c = if 48 ≤ c ∧ c ≤ 57 then 5 else if c = 101 ∨ c = 69 then 6 else -1 := rfl
theorem step6 (c : Int) : stepN 6 c = if c = 43 ∨ c = 45 then 7 else if 48 ≤ c ∧ c ≤ 57 then 8 else -1 := rfl
theorem step7 (c : Int) : stepN 7 c = if 48 ≤ c ∧ c ≤ 57 then 8 else -1 := rfl
theorem step8 (c : Int) : stepN 8 c = if 48 ≤ c ∧ c ≤ 57 then 8 else -1 := rfl
theorem step0 (c : Int) : stepN 0 c = if c = 45 then 1 else if c = 48 then 2 else if 48 ≤ c ∧ c ≤ 57 then 3 else -1 := rfl
theorem step1 (c : Int) : stepN 1 c = if c = 48 then 2 else if 48 ≤ c ∧ c ≤ 57 then 3 else -1 := rfl

def run (s : ByteArray) : Nat → Int → Nat → Int × Nat
  | 0, t, q => (t, q)
  | n + 1, t, q => if stepN t (bt s q) < 0 then (t, q) else run s n (stepN t (bt s q)) (q + 1)
/-- Where the automaton comes to, from state t at q. -/
def R (s : ByteArray) (t : Int) (q : Nat) : Int × Nat := run s (s.size - q) t q

theorem R_stop {s : ByteArray} {t : Int} {q : Nat} (h : stepN t (bt s q) < 0) : R s t q = (t, q) := by
  unfold R
  cases s.size - q with
  | zero => rfl
  | succ n => simp only [run]; rw [if_pos h]
theorem R_out {s : ByteArray} {t : Int} {q : Nat} (h : s.size ≤ q) : R s t q = (t, q) := by
  unfold R; rw [show s.size - q = 0 by omega]; rfl
theorem R_go {s : ByteArray} {t u : Int} {q : Nat} (h : stepN t (bt s q) = u) (hu : 0 ≤ u) : R s t q = R s u (q + 1) := by
  have hq : q < s.size := bt_in (fun e => by rw [e, stepN_zero] at h; omega)
  unfold R
  rw [show s.size - q = (s.size - (q + 1)) + 1 by omega]
  simp only [run]
  rw [h, if_neg (by omega)]
theorem R_dig {s : ByteArray} {t : Int} (ht : t = 3 ∨ t = 5 ∨ t = 8) : ∀ (n p : Nat), (∀ j, p ≤ j → j < p + n → isD (bt s j)) → R s t p = R s t (p + n)
  | 0, _, _ => rfl
  | n + 1, p, h => by
    have h0 := h p (Nat.le_refl _) (by omega)
    unfold isD at h0
    have e : stepN t (bt s p) = t := by
      rcases ht with rfl | rfl | rfl
      · rw [step3, if_pos h0]
      · rw [step5, if_pos h0]
      · rw [step8, if_pos h0]
    rw [R_go e (by omega), R_dig ht n (p + 1) (fun j h1 h2 => h j (by omega) (by omega))]
    congr 1
    omega
theorem R_digs {s : ByteArray} {t : Int} {p q : Nat} (ht : t = 3 ∨ t = 5 ∨ t = 8) (hpq : p ≤ q) (h : ∀ j, p ≤ j → j < q → isD (bt s j)) : R s t p = R s t q := by
  have := R_dig (s := s) ht (q - p) p (fun j h1 h2 => h j h1 (by omega))
  rw [this]; congr 1; omega

/-- The minus is passed: the automaton stands in u at q, and u = 0 only where no minus stands there. -/
theorem sign_at (s : ByteArray) (p : Nat) : ∃ u : Int, (u = 0 ∧ bt s (tkP s p 45) ≠ 45 ∨ u = 1) ∧ R s 0 p = R s u (tkP s p 45) := by
  by_cases h : bt s p = 45
  · refine ⟨1, .inr rfl, ?_⟩
    rw [tkP_yes h]
    exact R_go (by rw [h]; rfl) (by omega)
  · refine ⟨0, .inl ⟨rfl, ?_⟩, ?_⟩
    · rw [tkP_no h]; exact h
    · rw [tkP_no h]

def Mid2 (s : ByteArray) (p q : Nat) : Prop := R s 0 p = R s 2 q ∨ (R s 0 p = R s 3 q ∧ ¬ isD (bt s q))
theorem int_zero {s : ByteArray} {p : Nat} (h : tkB s (tkP s p 45) 48 = true) : Mid2 s p (tkP s (tkP s p 45) 48) := by
  have h1 := tkB_true.1 h
  obtain ⟨u, hu, e⟩ := sign_at s p
  left
  rw [e, tkP_yes h1]
  refine R_go ?_ (by omega)
  rw [h1]
  rcases hu with ⟨rfl, _⟩ | rfl <;> rfl
theorem int_none {s : ByteArray} {p : Nat} (h : tkB s (tkP s p 45) 48 = false) (hd : DgTo s (tkP s p 45) (tkP s p 45)) : okB (R s 0 p).1 = false := by
  have h1 := tkB_false.1 h
  obtain ⟨u, hu, e⟩ := sign_at s p
  have hs := hd.stop
  unfold isD at hs
  rw [e]
  rcases hu with ⟨rfl, h2⟩ | rfl
  · rw [R_stop (by rw [step0, if_neg h2, if_neg h1, if_neg hs]; decide)]; rfl
  · rw [R_stop (by rw [step1, if_neg h1, if_neg hs]; decide)]; rfl
theorem int_dig {s : ByteArray} {p q : Nat} (h : tkB s (tkP s p 45) 48 = false) (hd : DgTo s (tkP s p 45) q) (hq : q ≠ tkP s p 45) : Mid2 s p q := by
  have h1 := tkB_false.1 h
  obtain ⟨u, hu, e⟩ := sign_at s p
  have hle := hd.le
  have h0 := hd.all _ (Nat.le_refl _) (by omega)
  unfold isD at h0
  right
  refine ⟨?_, hd.stop⟩
  have e3 : R s u (tkP s p 45) = R s 3 (tkP s p 45 + 1) := by
    rcases hu with ⟨rfl, h2⟩ | rfl
    · exact R_go (by rw [step0, if_neg h2, if_neg h1, if_pos h0]) (by omega)
    · exact R_go (by rw [step1, if_neg h1, if_pos h0]) (by omega)
  rw [e, e3]
  exact R_digs (.inl rfl) (by omega) (fun j a b => hd.all j (by omega) b)

def Mid3 (s : ByteArray) (p q : Nat) : Prop := ∃ t : Int, (t = 2 ∨ t = 3 ∨ t = 5) ∧ R s 0 p = R s t q ∧ (t ≠ 2 → ¬ isD (bt s q)) ∧ (t ≠ 5 → bt s q ≠ 46)
theorem dot_no {s : ByteArray} {p q : Nat} (hm : Mid2 s p q) (h : tkB s q 46 = false) : Mid3 s p (tkP s q 46) := by
  have h1 := tkB_false.1 h
  rw [tkP_no h1]
  rcases hm with e | ⟨e, hn⟩
  · exact ⟨2, .inl rfl, e, fun h => absurd rfl h, fun _ => h1⟩
  · exact ⟨3, .inr (.inl rfl), e, fun _ => hn, fun _ => h1⟩
theorem dot_yes {s : ByteArray} {p q : Nat} (hm : Mid2 s p q) (h : tkB s q 46 = true) : R s 0 p = R s 4 (tkP s q 46) := by
  have h1 := tkB_true.1 h
  rw [tkP_yes h1]
  rcases hm with e | ⟨e, _⟩
  · rw [e]; exact R_go (by rw [h1]; rfl) (by omega)
  · rw [e]; exact R_go (by rw [h1]; rfl) (by omega)
theorem dot_none {s : ByteArray} {p q : Nat} (hm : Mid2 s p q) (h : tkB s q 46 = true) (hd : DgTo s (tkP s q 46) (tkP s q 46)) : okB (R s 0 p).1 = false := by
  have hs := hd.stop
  unfold isD at hs
  rw [dot_yes hm h, R_stop (by rw [step4, if_neg hs]; decide)]
  rfl
theorem dot_dig {s : ByteArray} {p q r : Nat} (hm : Mid2 s p q) (h : tkB s q 46 = true) (hd : DgTo s (tkP s q 46) r) (hr : r ≠ tkP s q 46) : Mid3 s p r := by
  have hle := hd.le
  have h0 := hd.all _ (Nat.le_refl _) (by omega)
  unfold isD at h0
  refine ⟨5, .inr (.inr rfl), ?_, fun _ => hd.stop, fun h => absurd rfl h⟩
  rw [dot_yes hm h, R_go (u := 5) (by rw [step4, if_pos h0]) (by omega)]
  exact R_digs (.inr (.inl rfl)) (by omega) (fun j a b => hd.all j (by omega) b)
theorem exp_no {s : ByteArray} {p q : Nat} (hm : Mid3 s p q) (h1 : bt s q ≠ 101) (h2 : bt s q ≠ 69) : okB (R s 0 p).1 = true ∧ (R s 0 p).2 = q := by
  obtain ⟨t, ht, e, hn, hd⟩ := hm
  unfold isD at hn
  have h3 : ¬ (bt s q = 101 ∨ bt s q = 69) := by omega
  have e2 : R s t q = (t, q) := R_stop (by
    rcases ht with rfl | rfl | rfl
    · rw [step2, if_neg (hd (by decide)), if_neg h3]; decide
    · rw [step3, if_neg (hn (by decide)), if_neg (hd (by decide)), if_neg h3]; decide
    · rw [step5, if_neg (hn (by decide)), if_neg h3]; decide)
  rw [e, e2]
  refine ⟨?_, rfl⟩
  unfold okB
  simp only [decide_eq_true_eq]
  omega
theorem exp_yes {s : ByteArray} {p q : Nat} (hm : Mid3 s p q) (h : bt s q = 101 ∨ bt s q = 69) : R s 0 p = R s 6 (q + 1) := by
  obtain ⟨t, ht, e, _, _⟩ := hm
  rw [e]
  refine R_go ?_ (by omega)
  rcases ht with rfl | rfl | rfl <;> rcases h with h | h <;> rw [h] <;> rfl
def Mid5 (s : ByteArray) (p q : Nat) : Prop := (R s 0 p = R s 6 q ∧ bt s q ≠ 43 ∧ bt s q ≠ 45) ∨ R s 0 p = R s 7 q
theorem sg_plus {s : ByteArray} {p q : Nat} (hm : R s 0 p = R s 6 q) (h : tkB s q 43 = true) : Mid5 s p (tkP s q 43) := by
  have h1 := tkB_true.1 h
  right
  rw [tkP_yes h1, hm]
  exact R_go (by rw [h1]; rfl) (by omega)
theorem sg_not {s : ByteArray} {p q : Nat} (hm : R s 0 p = R s 6 q) (h : tkB s q 43 = false) : Mid5 s p (tkP s (tkP s q 43) 45) := by
  have h1 := tkB_false.1 h
  rw [tkP_no h1]
  by_cases h2 : bt s q = 45
  · right
    rw [tkP_yes h2, hm]
    exact R_go (by rw [h2]; rfl) (by omega)
  · left
    rw [tkP_no h2]
    exact ⟨hm, h1, h2⟩
theorem ex_none {s : ByteArray} {p q : Nat} (hm : Mid5 s p q) (hd : DgTo s q q) : okB (R s 0 p).1 = false := by
  have hs := hd.stop
  unfold isD at hs
  rcases hm with ⟨e, h1, h2⟩ | e
  · rw [e, R_stop (by rw [step6, if_neg (by omega), if_neg hs]; decide)]
    rfl
  · rw [e, R_stop (by rw [step7, if_neg hs]; decide)]
    rfl
theorem ex_dig {s : ByteArray} {p q r : Nat} (hm : Mid5 s p q) (hd : DgTo s q r) (hr : r ≠ q) : okB (R s 0 p).1 = true ∧ (R s 0 p).2 = r := by
  have hle := hd.le
  have h0 := hd.all _ (Nat.le_refl _) (by omega)
  have hs := hd.stop
  unfold isD at h0 hs
  have e1 : R s 0 p = R s 8 (q + 1) := by
    rcases hm with ⟨e, h1, h2⟩ | e
    · rw [e]; exact R_go (by rw [step6, if_neg (by omega), if_pos h0]) (by omega)
    · rw [e]; exact R_go (by rw [step7, if_pos h0]) (by omega)
  have e2 : R s 8 (q + 1) = R s 8 r := R_digs (.inr (.inr rfl)) (by omega) (fun j a b => hd.all j (by omega) b)
  have e3 : R s 8 r = (8, r) := R_stop (by rw [step8, if_neg hs]; decide)
  rw [e1, e2, e3]
  exact ⟨rfl, rfl⟩
end Go.Proofs.Qxb6000613a
