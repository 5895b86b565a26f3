/-
  joinMessages and modelJoin as plain functions on lists of bytes, and the plain law: they are one. No walk here. By an AI agent. No person has read it.
-/
import Derived.Maps.OwnSet
namespace Go.Proofs.Qxb6000613a
open Go.RowKit Go.Maps

/-- A message that is not there yet goes to the end. -/
def ad (u : List (List UInt8)) (m : List UInt8) : List (List UInt8) := if m ∈ u then u else u ++ [m]
/-- The distinct ones among the first k, in the order of their first occurrence. -/
def ddTo (ms : List (List UInt8)) (k : Nat) : List (List UInt8) := (ms.take k).foldl ad []
theorem ddTo_zero (ms : List (List UInt8)) : ddTo ms 0 = [] := rfl
theorem ddTo_succ (ms : List (List UInt8)) (k : Nat) (h : k < ms.length) : ddTo ms (k + 1) = ad (ddTo ms k) (ms.getD k []) := by
  unfold ddTo
  rw [List.take_succ_eq_append_getElem h, List.foldl_append]
  simp [List.getD, List.getElem?_eq_getElem h]
theorem ad_in {u : List (List UInt8)} {m : List UInt8} (h : m ∈ u) : ad u m = u := by unfold ad; rw [if_pos h]
theorem ad_out {u : List (List UInt8)} {m : List UInt8} (h : m ∉ u) : ad u m = u ++ [m] := by unfold ad; rw [if_neg h]
theorem ad_nodup {u : List (List UInt8)} {m : List UInt8} (h : u.Nodup) : (ad u m).Nodup := by
  unfold ad
  split
  · exact h
  · rename_i hm
    rw [List.nodup_append]
    refine ⟨h, by simp, ?_⟩
    intro a ha b hb e
    rw [List.mem_singleton] at hb
    subst hb
    subst e
    exact hm ha
theorem foldl_nodup : ∀ (ms u : List (List UInt8)), u.Nodup → (ms.foldl ad u).Nodup
  | [], _, h => h
  | _ :: ms, _, h => foldl_nodup ms _ (ad_nodup h)
theorem ddTo_nodup (ms : List (List UInt8)) (k : Nat) : (ddTo ms k).Nodup := foldl_nodup _ _ List.nodup_nil
theorem ad_length (u : List (List UInt8)) (m : List UInt8) : (ad u m).length ≤ u.length + 1 := by
  unfold ad; split <;> simp
theorem ddTo_length (ms : List (List UInt8)) : ∀ k, k ≤ ms.length → (ddTo ms k).length ≤ k
  | 0, _ => by simp [ddTo]
  | k + 1, h => by
    rw [ddTo_succ ms k (by omega)]
    have := ad_length (ddTo ms k) (ms.getD k [])
    have := ddTo_length ms k (by omega)
    omega

/-- One message written by joinMessages. -/
def jw (acc m : List UInt8) : List UInt8 := acc ++ (if acc = [] then [] else [59, 32]) ++ m
def J (u : List (List UInt8)) : List UInt8 := u.foldl jw []
theorem J_snoc (u : List (List UInt8)) (m : List UInt8) : J (u ++ [m]) = jw (J u) m := by unfold J; rw [List.foldl_append]; rfl
def sep (u : List (List UInt8)) : List UInt8 := (u.map fun x => [59, 32] ++ x).flatten
def sj : List (List UInt8) → List UInt8
  | [] => []
  | x :: xs => x ++ sep xs
theorem sep_snoc (u : List (List UInt8)) (x : List UInt8) : sep (u ++ [x]) = sep u ++ ([59, 32] ++ x) := by unfold sep; simp
theorem foldl_jw : ∀ (xs : List (List UInt8)) (acc : List UInt8), acc ≠ [] → xs.foldl jw acc = acc ++ sep xs
  | [], acc, _ => by simp [sep]
  | x :: xs, acc, h => by
    have e : jw acc x = acc ++ [59, 32] ++ x := by unfold jw; rw [if_neg h]
    rw [List.foldl_cons, e, foldl_jw xs _ (by simp)]
    simp [sep]
theorem J_sj {u : List (List UInt8)} (h : u.head? ≠ some []) : J u = sj u := by
  cases u with
  | nil => rfl
  | cons x xs =>
    have hx : x ≠ [] := fun e => h (by rw [e]; rfl)
    unfold J
    rw [List.foldl_cons]
    have e : jw [] x = x := by unfold jw; simp
    rw [e, foldl_jw xs x hx]
    rfl
/-- Where modelJoin begins. -/
def kOf (u : List (List UInt8)) : Nat := if u.head? = some [] then 1 else 0
/-- What modelJoin has written behind d of those from k on. -/
def MTo (u : List (List UInt8)) (k : Nat) : Nat → List UInt8
  | 0 => []
  | d + 1 => MTo u k d ++ (if 0 < d then [59, 32] else []) ++ u.getD (k + d) []
theorem MTo_sj (u : List (List UInt8)) (k : Nat) : ∀ d, k + d ≤ u.length → MTo u k d = sj ((u.drop k).take d)
  | 0, _ => by simp [MTo, sj]
  | d + 1, h => by
    have ih := MTo_sj u k d (by omega)
    have hl : d < (u.drop k).length := by simp; omega
    have e : (u.drop k).take (d + 1) = (u.drop k).take d ++ [u.getD (k + d) []] := by
      rw [List.take_succ_eq_append_getElem hl]
      simp [List.getD, List.getElem?_eq_getElem (show k + d < u.length by omega)]
    rw [e]
    simp only [MTo]
    rw [ih]
    cases d with
    | zero => simp [sj, sep]
    | succ d =>
      have hne : (u.drop k).take (d + 1) ≠ [] := by
        intro e0
        have := congrArg List.length e0
        rw [List.length_take] at this
        simp at this
        omega
      cases hc : (u.drop k).take (d + 1) with
      | nil => exact absurd hc hne
      | cons x xs =>
        rw [List.cons_append]
        simp only [sj]
        rw [sep_snoc]
        simp
theorem kOf_le (u : List (List UInt8)) : kOf u ≤ u.length := by
  unfold kOf; split
  · cases u with
    | nil => rename_i h; cases h
    | cons x xs => simp
  · omega
/-- The plain law. -/
theorem J_M {u : List (List UInt8)} (hu : u.Nodup) : J u = MTo u (kOf u) (u.length - kOf u) := by
  have hk := kOf_le u
  rw [MTo_sj u (kOf u) _ (by omega), List.take_of_length_le (by simp)]
  unfold kOf
  split
  · rename_i h
    cases u with
    | nil => cases h
    | cons x xs =>
      have hx : x = [] := by simpa using h
      subst hx
      have e : J ([] :: xs) = J xs := by unfold J; rw [List.foldl_cons]; rfl
      rw [e]
      refine J_sj ?_
      intro h2
      rw [List.nodup_cons] at hu
      cases xs with
      | nil => cases h2
      | cons y ys =>
        have hy : y = [] := by simpa using h2
        subst hy
        exact hu.1 (by simp)
  · rename_i h
    exact J_sj h

/-- How much all messages up to k take: 16 each and their bytes. -/
def totTo (ms : List (List UInt8)) : Nat → Nat
  | 0 => 0
  | k + 1 => totTo ms k + 16 + (ms.getD k []).length
theorem totTo_mono (ms : List (List UInt8)) {k n : Nat} (h : k ≤ n) : totTo ms k ≤ totTo ms n := by
  induction n with
  | zero => rw [show k = 0 by omega]; exact Nat.le_refl _
  | succ n ih =>
    by_cases e : k = n + 1
    · rw [e]; exact Nat.le_refl _
    · have := ih (by omega); simp only [totTo]; omega
theorem totTo_ge (ms : List (List UInt8)) : ∀ k, 16 * k ≤ totTo ms k
  | 0 => Nat.le_refl _
  | k + 1 => by have := totTo_ge ms k; simp only [totTo]; omega
theorem jw_length (acc m : List UInt8) : (jw acc m).length ≤ acc.length + 2 + m.length := by
  unfold jw; split
  · simp
  · simp; omega
theorem J_length (ms : List (List UInt8)) : ∀ k, k ≤ ms.length → (J (ddTo ms k)).length ≤ totTo ms k
  | 0, _ => by simp [ddTo, J]
  | k + 1, h => by
    have ih := J_length ms k (by omega)
    rw [ddTo_succ ms k (by omega)]
    simp only [totTo]
    by_cases hm : ms.getD k [] ∈ ddTo ms k
    · rw [ad_in hm]; omega
    · rw [ad_out hm, J_snoc]
      have := jw_length (J (ddTo ms k)) (ms.getD k [])
      omega

/-! ### the set of messages seen, as a map's datum -/
def keysOf (u : List (List UInt8)) : List Lit := u.map Lit.string
def seenD (u : List (List UInt8)) : DataW Unit := setOf (.lit (.bool true)) (keysOf u)
theorem seenD_nil : seenD [] = .map [] := rfl
theorem seenD_snoc (u : List (List UInt8)) (m : List UInt8) : seenD (u ++ [m]) = (seenD u).put (.string m) (.lit (.bool true)) := by
  unfold seenD keysOf
  rw [List.map_append, List.map_singleton, setOf_snoc]
theorem keys_ok (u : List (List UInt8)) : ∀ x ∈ keysOf u, WideAt.IsKeyLit x := by
  intro x hx
  unfold keysOf at hx
  rw [List.mem_map] at hx
  obtain ⟨m, _, rfl⟩ := hx
  trivial
theorem seenD_isMap (u : List (List UInt8)) : IsMap (seenD u) := (tidy_setOf _ _ (keys_ok u)).isMap
theorem seenD_rev : ∀ (r : List (List UInt8)) (m : List UInt8), (seenD r.reverse).atKey (.string m) (.lit (.bool false)) = .lit (.bool (decide (m ∈ r)))
  | [], m => by
    rw [List.reverse_nil, seenD_nil]
    rw [atKey_of_not_has (by rfl)]
    simp
  | x :: r, m => by
    rw [List.reverse_cons, seenD_snoc]
    by_cases e : m = x
    · subst e
      rw [atKey_put_same (k := .string m) (seenD_isMap r.reverse) (show WideAt.IsKeyLit (.string m) from trivial)]
      simp
    · rw [atKey_put_other (by intro h; exact e (by injection h)), seenD_rev r m]
      simp [e]
theorem seenD_at (u : List (List UInt8)) (m : List UInt8) : (seenD u).atKey (.string m) (.lit (.bool false)) = .lit (.bool (decide (m ∈ u))) := by
  have := seenD_rev u.reverse m
  rw [List.reverse_reverse] at this
  rw [this]
  simp
end Go.Proofs.Qxb6000613a
