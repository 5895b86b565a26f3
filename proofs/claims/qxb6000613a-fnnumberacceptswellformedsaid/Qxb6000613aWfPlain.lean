/-
  What FnNumberAcceptsWellFormed needs besides: the automaton over a list, bytes appended to a slice of the call's own, the plain law. By an AI agent. No person has read it.
-/
import Derived.Test.Qxb6000613aAuto
namespace Go.Proofs.Qxb6000613a
open Go.RowKit

theorem info5 : (Try.prog.info? 5).map (fun i => (i.zero, i.size, i.bytes)) = some (some (.int .u8 0), 1, 1) := by kernel_rfl

/-- The automaton over a list of bytes; none: it could not go to the list's end. -/
def runL : Int → List Int → Option Int
  | t, [] => some t
  | t, c :: l => if stepN t c < 0 then none else runL (stepN t c) l
theorem runL_append : ∀ (xs ys : List Int) (t u : Int), runL t xs = some u → runL t (xs ++ ys) = runL u ys
  | [], ys, t, u, h => by simp only [runL, Option.some.injEq] at h; subst h; rfl
  | c :: xs, ys, t, u, h => by
    simp only [runL, List.cons_append] at h ⊢
    split at h
    · cases h
    · rename_i hc
      rw [if_neg hc]
      exact runL_append xs ys _ _ h
theorem runL_R (s : ByteArray) : ∀ (xs : List Int) (t u : Int) (q : Nat), runL t xs = some u → (∀ j, j < xs.length → bt s (q + j) = xs.getD j 0) → R s t q = R s u (q + xs.length)
  | [], t, u, q, h, _ => by simp only [runL, Option.some.injEq] at h; subst h; rfl
  | c :: xs, t, u, q, h, hb => by
    have h0 := hb 0 (by simp)
    simp only [Nat.add_zero, List.getD_cons_zero] at h0
    simp only [runL] at h
    split at h
    · cases h
    · rename_i hc
      rw [R_go (u := stepN t c) (by rw [h0]) (by omega)]
      rw [runL_R s xs _ u (q + 1) h (fun j hj => by
        have := hb (j + 1) (by simp; omega)
        rw [show q + 1 + j = q + (j + 1) by omega, this]; simp)]
      congr 1
      simp; omega

/-- The slice v of bytes, in memory of the call's own (from block B on), holds xs; the automaton reads xs and stands in t. -/
structure Nm (B : Nat) (v : Value) (w : World) (xs : List Int) (t : Int) : Prop where
  own : w.ownsRow B 5 1 v xs.length (xs.map (Value.int .u8))
  rng : ∀ x, x ∈ xs → 0 ≤ x ∧ x ≤ 255
  run : runL 0 xs = some t
  base : B ≤ w.heap.size

theorem nm_nil (B : Nat) (w : World) (h : B ≤ w.heap.size) : Nm B (.slice none 0 0) w [] 0 := ⟨World.ownsRow_nil _ _ _ _, fun x hx => (by cases hx), rfl, h⟩

theorem wpList_nm {ops : Array Oper} {rest : List Oper} {o : Oper} {a : Act} {Q : Exit → Act → World → Prop} (hgd : o.guard = none) (s x : Operand)
    (ho : o.op = .call { callee := .builtin .append, args := #[s, x], argTypes := #[26, 26] })
    {B : Nat} {w0 wr : World} {v : Value} {xs : List Int} {t u : Int} (news : List Int) (m : Nat) (cs : Array Value) (hcs : cs = (news.map (Value.int .u8)).toArray) (hm : news.length = m)
    (hn : Nm B v wr xs t) (hbl : Below B w0 wr) (hs : a.eval s = v) (hx : a.eval x = .slice (some ⟨wr.heap.size, 0, none⟩) m m)
    (hrng : ∀ x, x ∈ news → 0 ≤ x ∧ x ≤ 255) (hrun : runL t news = some u) (hlen : xs.length + m ≤ 2097152)
    (h : ∀ v' w', Nm B v' w' (xs ++ news) u → Below B w0 w' → wpList Try.prog ops Q rest (a.put o.dst v') w') :
    wpList Try.prog ops Q (o :: rest) a (wr.alloc (.cells cs 5)) := by
  obtain ⟨i0, hi, hz0, hz1, hz2⟩ := info_parts info5
  refine wpList_append_own _ hgd s x 26 ho B 5 i0 (.int .u8 0) 1 1 Try.underlying26 hi hz0 hz1 hz2 rfl (by decide) v xs.length (xs.map (Value.int .u8)) hs (hn.own.alloc _) ⟨wr.heap.size, 0, none⟩ m m (news.map (Value.int .u8)) hx (by simp [hm]) ?_ ?_ (by unfold maxLen; omega) (by omega) (by have := hn.base; simp; omega) ?_
  · intro j u hj
    have e : (⟨wr.heap.size, 0, none⟩ : Addr).add j = ⟨wr.heap.size, j, none⟩ := by unfold Addr.add; split <;> simp_all
    rw [e, World.cell?_alloc_at _ _ _ _ rfl, hcs]
    simpa using hj
  · intro u hu
    simp only [List.mem_map] at hu
    obtain ⟨y, _, rfl⟩ := hu
    rfl
  · intro v' w' hown hgrow _
    have hb2 : B ≤ (wr.alloc (.cells cs 5)).heap.size := by have := hn.base; simp; omega
    refine h v' w' ⟨?_, ?_, ?_, ?_⟩ ?_
    · have e1 : (xs ++ news).length = xs.length + m := by simp [hm]
      rw [e1, List.map_append]
      exact hown
    · intro y hy
      rcases List.mem_append.1 hy with hy | hy
      · exact hn.rng y hy
      · exact hrng y hy
    · rw [runL_append _ _ _ _ hn.run]; exact hrun
    · exact Nat.le_trans hb2 hgrow.size
    · exact (hbl.alloc hn.base _).grown hgrow hb2 (fun k hk => ((hn.own.lt) k hk).1)

/-- What is read behind the number: nothing that goes on with it. -/
def calm (c : Int) : Prop := ¬ isD c ∧ c ≠ 46 ∧ c ≠ 101 ∧ c ≠ 69
theorem calm_stop {t c : Int} (ht : t = 2 ∨ t = 3 ∨ t = 5 ∨ t = 8) (h : calm c) : stepN t c < 0 := by
  obtain ⟨h1, h2, h3, h4⟩ := h
  unfold isD at h1
  have h5 : ¬ (c = 101 ∨ c = 69) := by omega
  rcases ht with rfl | rfl | rfl | rfl
  · rw [step2, if_neg h2, if_neg h5]; decide
  · rw [step3, if_neg h1, if_neg h2, if_neg h5]; decide
  · rw [step5, if_neg h1, if_neg h5]; decide
  · rw [step8, if_neg h1]; decide
theorem bt_append_left (a b : ByteArray) (j : Nat) (h : j < a.size) : bt (a ++ b) j = bt a j := by
  unfold bt
  have h2 : j < (a ++ b).size := by rw [ByteArray.size_append]; omega
  rw [dif_pos h2, dif_pos h, ByteArray.getElem_append_left h]
theorem bt_append_right (a b : ByteArray) (j : Nat) : bt (a ++ b) (a.size + j) = bt b j := by
  unfold bt
  by_cases h : j < b.size
  · have h2 : a.size + j < (a ++ b).size := by rw [ByteArray.size_append]; omega
    rw [dif_pos h2, dif_pos h, ByteArray.getElem_append_right (by omega)]
    simp
  · rw [dif_neg (by rw [ByteArray.size_append]; omega), dif_neg h]
theorem bt_nums' (xs : List Int) (h : ∀ x, x ∈ xs → 0 ≤ x ∧ x ≤ 255) (j : Nat) (hj : j < xs.length) : bt (strOfNums xs) j = xs.getD j 0 := by
  have hr := h (xs.getD j 0) (by rw [List.getD, List.getElem?_eq_getElem hj]; simp)
  unfold bt
  have hs : j < (strOfNums xs).size := by rw [strOfNums_size]; exact hj
  rw [dif_pos hs]
  have e : (strOfNums xs)[j] = UInt8.ofNat (xs.getD j 0).toNat := by
    show (strOfNums xs).data[j] = _
    simp [strOfNums, List.getD, List.getElem?_eq_getElem hj]
  rw [e, UInt8.toNat_ofNat']
  omega
/-- The plain law: the automaton, run over pre + num + suffix from pre's end, stops in t at num's end. -/
theorem wf_plain (pre suf : ByteArray) (xs : List Int) (t : Int) (hr : ∀ x, x ∈ xs → 0 ≤ x ∧ x ≤ 255) (hrun : runL 0 xs = some t) (ht : t = 2 ∨ t = 3 ∨ t = 5 ∨ t = 8) (hc : calm (bt suf 0)) :
    R (pre ++ strOfNums xs ++ suf) 0 pre.size = (t, pre.size + xs.length) := by
  rw [ByteArray.append_assoc]
  rw [runL_R _ xs 0 t pre.size hrun (fun j hj => by
    rw [bt_append_right, bt_append_left _ _ _ (by rw [strOfNums_size]; exact hj), bt_nums' xs hr j hj])]
  refine R_stop ?_
  rw [bt_append_right]
  have : bt (strOfNums xs ++ suf) xs.length = bt suf 0 := by
    have := bt_append_right (strOfNums xs) suf 0
    rw [strOfNums_size] at this
    simpa using this
  rw [this]
  exact calm_stop ht hc
end Go.Proofs.Qxb6000613a
