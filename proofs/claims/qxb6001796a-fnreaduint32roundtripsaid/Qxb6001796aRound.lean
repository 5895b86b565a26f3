/-
  FnReadUint32RoundTrip: the walk of the long way. By an AI agent. No person has read it.
-/
import Derived.Test.Qxb6001796aReenc
namespace Go.Proofs.Qxb6001796a
open Go.RowKit

theorem le4_by (v : Int) (hv : 0 ≤ v ∧ v ≤ 4294967295) : le4 (by0 v) (by1 v) (by2 v) (by3 v) = v := by unfold le4 by0 by1 by2 by3; omega
theorem by_bd (v : Int) : (0 ≤ by0 v ∧ by0 v ≤ 255) ∧ (0 ≤ by1 v ∧ by1 v ≤ 255) ∧ (0 ≤ by2 v ∧ by2 v ≤ 255) ∧ (0 ≤ by3 v ∧ by3 v ≤ 255) := by unfold by0 by1 by2 by3; omega

/-- The tail as the law holds it behind its clone, in world w: nil, or a row of n bytes at the head of block t. -/
structure TailAt (w : World) (ao : Option Addr) (n c : Nat) (f : Nat → Int) : Prop where
  nil : ao = none → n = 0 ∧ c = 0
  row : ∀ x, ao = some x → ∃ t, x = ⟨t, 0, none⟩ ∧ ∀ i, i < n → w.cell? ⟨t, i, none⟩ = some (.int .u8 (f i))

def four (v : Int) : List Value := [.int .u8 (by0 v), .int .u8 (by1 v), .int .u8 (by2 v), .int .u8 (by3 v)]
def tailL (f : Nat → Int) (n : Nat) : List Value := (List.range n).map fun i => .int .u8 (f i)
theorem tailL_length (f : Nat → Int) (n : Nat) : (tailL f n).length = n := by simp [tailL]
theorem tailL_get (f : Nat → Int) (n j : Nat) (u : Value) (h : (tailL f n)[j]? = some u) : j < n ∧ u = .int .u8 (f j) := by
  have hj : j < n := by
    rcases Nat.lt_or_ge j n with h1 | h1
    · exact h1
    · rw [List.getElem?_eq_none (by rw [tailL_length]; exact h1)] at h; cases h
  refine ⟨hj, ?_⟩
  have e : (tailL f n)[j]? = some (.int .u8 (f j)) := by unfold tailL; simp [hj]
  rw [e] at h
  exact (Option.some.inj h).symm
theorem tailL_get' (f : Nat → Int) (n j : Nat) (h : j < n) : (tailL f n)[j]? = some (.int .u8 (f j)) := by
  unfold tailL; simp [h]
theorem tailL_one (f : Nat → Int) (n : Nat) : ∀ u, u ∈ tailL f n → u.oneCell' = true := by
  intro u hu
  unfold tailL at hu
  simp only [List.mem_map] at hu
  obtain ⟨y, _, rfl⟩ := hu
  rfl
theorem four_one (v : Int) : ∀ u, u ∈ four v → u.oneCell' = true := by
  intro u hu
  unfold four at hu
  simp only [List.mem_cons, List.not_mem_nil, or_false] at hu
  rcases hu with rfl | rfl | rfl | rfl <;> rfl

/-- The tail's row is still there in a later world that has grown but for row G. -/
theorem TailAt.later {w w' : World} {to : Option Addr} {n c : Nat} {f : Nat → Int} (h : TailAt w to n c f) (hb : ∀ a, a.block < w.heap.size → w'.cell? a = w.cell? a) : TailAt w' to n c f :=
  ⟨h.nil, fun x hx => by
    obtain ⟨t, e, hc⟩ := h.row x hx
    exact ⟨t, e, fun i hi => by rw [hb ⟨t, i, none⟩ (block_lt_of_cell (hc i hi))]; exact hc i hi⟩⟩

/-- Block G is a row of the call's own with room for tot bytes; xs are in it; below G nothing has turned since wb. -/
structure Bf (G tot : Nat) (xs : List Value) (wb w : World) : Prop where
  own : w.ownsRow G 5 1 (.slice (some ⟨G, 0, none⟩) xs.length tot) xs.length xs
  bel : Below G wb w
  lt : G < w.heap.size

theorem bf_make {ops : Array Oper} {rest : List Oper} {o : Oper} {a : Act} {Q : Exit → Act → World → Prop} (wb : World) (hg : o.guard = none) (l c : Operand) (hop : o.op = Op.makeSlice 23 l c)
    (G tot : Nat) (hG : wb.heap.size = G) (C : Int) (hl : a.eval l = .int .i64 0) (hc : a.eval c = .int .i64 C) (hC : C = (tot : Int)) (ht : tot ≤ 2097152)
    (hK : ∀ w', Bf G tot [] wb w' → wpList Try.prog ops Q rest (a.put o.dst (.slice (some ⟨G, 0, none⟩) 0 tot)) w') :
    wpList Try.prog ops Q (o :: rest) a wb := by
  obtain ⟨i0, hi, hz0, hz1, hz2⟩ := info_parts info5
  subst hG
  refine wpList_make_own wb hg l c 23 hop wb.heap.size 5 i0 (.int .u8 0) 1 Try.underlying23 hi hz0 hz1 .i64 .i64 C tot hl hc hC (by rw [hz2]; omega) (by unfold maxLen; omega) (Nat.le_refl _) ?_
  intro w2 hown hgrow
  refine hK w2 ⟨hown, (Below.refl _ _).grown hgrow (Nat.le_refl _) (fun k hk => by cases hk), ?_⟩
  exact (hown.lt wb.heap.size rfl).2

theorem bf_app {ops : Array Oper} {rest : List Oper} {o : Oper} {a : Act} {Q : Exit → Act → World → Prop} {wb w w2 : World} (hg : o.guard = none) (s x : Operand) (hop : o.op = Op.call { callee := Callee.builtin Builtin.append, args := #[s, x], argTypes := #[23, 23] })
    {G tot : Nat} {xs : List Value} (hB : Bf G tot xs wb w) (hw2 : w2 = w ∨ ∃ o, w2 = w.alloc o) (k : Nat) (hk : xs.length = k) (hs : a.eval s = .slice (some ⟨G, 0, none⟩) k tot) (ao : Option Addr) (m c : Nat) (news : List Value) (hx : a.eval x = .slice ao m c) (hn : news.length = m)
    (hnone : ao = none → m = 0 ∧ c = 0) (hc : ∀ ad, ao = some ad → ∀ j u, news[j]? = some u → w2.cell? (ad.add j) = some u) (h1c : ∀ u ∈ news, u.oneCell' = true) (b1 : k + m ≤ tot)
    (hK : ∀ w', Bf G tot (xs ++ news) wb w' → wpList Try.prog ops Q rest (a.put o.dst (.slice (some ⟨G, 0, none⟩) (k + m) tot)) w') :
    wpList Try.prog ops Q (o :: rest) a w2 := by
  obtain ⟨i0, hi, hz0, hz1, hz2⟩ := info_parts info5
  subst hk
  have hown : w2.ownsRow G 5 1 (.slice (some ⟨G, 0, none⟩) xs.length tot) xs.length xs := by
    rcases hw2 with rfl | ⟨o, rfl⟩
    · exact hB.own
    · exact hB.own.alloc o
  have hbel : Below G wb w2 := by
    rcases hw2 with rfl | ⟨o, rfl⟩
    · exact hB.bel
    · exact hB.bel.alloc (by have := hB.lt; omega) o
  have hlt : G < w2.heap.size := by
    rcases hw2 with rfl | ⟨o, rfl⟩
    · exact hB.lt
    · have := hB.lt; simp; omega
  refine wpList_append_fits_any w2 hg s x 23 hop G 5 i0 1 Try.underlying23 hi hz1 G xs.length tot xs hs hown ao m c news hx (by rw [hn]; omega) hnone hc h1c b1 ?_
  intro w' hown' hgrow
  refine hK w' ⟨?_, hbel.grown hgrow (by omega) (fun k hk => by cases hk; exact Nat.le_refl _), Nat.lt_of_lt_of_le hlt hgrow.size⟩
  rw [List.length_append, hn]
  exact hown'

theorem four_at (v : Int) (w : World) : ∀ ad, some (⟨w.heap.size, 0, none⟩ : Addr) = some ad → ∀ j u, (four v)[j]? = some u → (w.alloc (.cells #[.int .u8 (by0 v), .int .u8 (by1 v), .int .u8 (by2 v), .int .u8 (by3 v)] 5)).cell? (ad.add j) = some u := by
  intro ad h j u hj
  cases h
  have e : (⟨w.heap.size, 0, none⟩ : Addr).add j = ⟨w.heap.size, j, none⟩ := by unfold Addr.add; split <;> simp_all
  rw [e, World.cell?_alloc_at _ _ _ _ rfl]
  unfold four at hj
  simpa using hj
theorem TailAt.cells {w : World} {to : Option Addr} {n c : Nat} {f : Nat → Int} (h : TailAt w to n c f) : ∀ ad, to = some ad → ∀ j u, (tailL f n)[j]? = some u → w.cell? (ad.add j) = some u := by
  intro ad ha j u hj
  obtain ⟨t, rfl, hc⟩ := h.row ad ha
  obtain ⟨h1, rfl⟩ := tailL_get f n j u hj
  have e : (⟨t, 0, none⟩ : Addr).add j = ⟨t, j, none⟩ := by unfold Addr.add; split <;> simp_all
  rw [e]; exact hc j h1
theorem wb_cell (W1 : World) (o1 o2 o3 : Obj) (a : Addr) (h : a.block < W1.heap.size) : (((W1.alloc o1).alloc o2).alloc o3).cell? a = W1.cell? a := by
  rw [World.cell?_alloc_lt _ _ _ (by simp; omega), World.cell?_alloc_lt _ _ _ (by simp; omega), World.cell?_alloc_lt _ _ _ h]
theorem Bf.cell {G tot : Nat} {xs : List Value} {wb w : World} (h : Bf G tot xs wb w) (j : Nat) (hj : j < xs.length) : w.cell? ⟨G, j, none⟩ = xs[j]? := h.own.cellAt j (by omega)
theorem ft_get0 (v : Int) (l : List Value) : (four v ++ l)[0]? = some (.int .u8 (by0 v)) := rfl
theorem ft_get1 (v : Int) (l : List Value) : (four v ++ l)[1]? = some (.int .u8 (by1 v)) := rfl
theorem ft_get2 (v : Int) (l : List Value) : (four v ++ l)[2]? = some (.int .u8 (by2 v)) := rfl
theorem ft_get3 (v : Int) (l : List Value) : (four v ++ l)[3]? = some (.int .u8 (by3 v)) := rfl
theorem ft_get4 (v : Int) (f : Nat → Int) (n i : Nat) (h : i < n) : (four v ++ tailL f n)[4 + i]? = some (.int .u8 (f i)) := by
  have e : (four v).length = 4 := rfl
  rw [List.getElem?_append_right (by rw [e]; omega), e, show 4 + i - 4 = i by omega]
  exact tailL_get' f n i h
theorem ft_len (v : Int) (f : Nat → Int) (n : Nat) : (four v ++ tailL f n).length = 4 + n := by rw [List.length_append, tailL_length]; rfl

set_option maxHeartbeats 2000000 in
theorem rt_walk (v : Int) (hv : 0 ≤ v ∧ v ≤ 4294967295) (ao : Option Addr) (n cap : Nat) (f : Nat → Int) (w : World) (hn : n ≤ 1048576)
    (W1 : World) (to : Option Addr) (tc : Nat)
    (CLN : Hid (Calls Try.prog 6 #[.slice ao n cap] w fun e w' => e = .returned (.slice to n tc) ∧ W1 = w')) (hT : Hid (TailAt W1 to n tc f)) (hB : Hid (Below w.heap.size w W1)) :
    Calls Try.prog 3 #[.int .u32 v, .slice ao n cap] w fun e w' => e = .returned (.bool true) ∧ Below w.heap.size w w' := by
  have hsz := hB.out.size
  obtain ⟨hy0, hy1, hy2, hy3⟩ := by_bd v
  have hlv := le4_by v hv
  by_cases hn0 : n = 0
  · subst hn0
    have HR : Hid (restV (W1.heap.size + 1 + 1 + 1) (4 + 0) (0 + 4) = .slice (some ⟨W1.heap.size + 1 + 1 + 1, 0, none⟩) 0 0) := rfl
    go_enter Try.func3, Try.ntmps3
    go_wp2_with (first | (go_at_call 6; refine CLN.out.mono ?_; rintro e w1 ⟨rfl, rfl⟩) | (go_at_call 7; refine (le32_any v _ hv).mono ?_; rintro e w1 ⟨rfl, d1, d2, rfl⟩) | (at_make; refine bf_make _ rfl _ _ rfl (W1.heap.size + 1 + 1 + 1) (0 + 4) (by simp) _ rfl rfl (by omega) (by omega) ?_; intro w2 hb2; have k0 : w2.cell? ⟨W1.heap.size + 1 + 1, 0, none⟩ = some (.int .u8 (by0 v)) := (hb2.bel.cell (by simp)).trans (by simp [go_sem]); have k1 : w2.cell? ⟨W1.heap.size + 1 + 1, 1, none⟩ = some (.int .u8 (by1 v)) := (hb2.bel.cell (by simp)).trans (by simp [go_sem]); have k2 : w2.cell? ⟨W1.heap.size + 1 + 1, 2, none⟩ = some (.int .u8 (by2 v)) := (hb2.bel.cell (by simp)).trans (by simp [go_sem]); have k3 : w2.cell? ⟨W1.heap.size + 1 + 1, 3, none⟩ = some (.int .u8 (by3 v)) := (hb2.bel.cell (by simp)).trans (by simp [go_sem])) | (at_builtin; refine bf_app rfl (.tmp 25) (.tmp 34) rfl hb2 (.inr ⟨_, rfl⟩) 0 rfl rfl _ 4 4 (four v) rfl rfl (fun h => by cases h) (four_at v w2) (four_one v) (by omega) ?_; intro w3 hb3; rw [List.nil_append] at hb3; clear hb2 k0 k1 k2 k3; have T3 : TailAt w3 to 0 tc f := hT.out.later (fun a ha => (hb3.bel.cell (by omega)).trans (wb_cell W1 _ _ _ a ha))) | (at_builtin; refine bf_app rfl (.tmp 36) (.tmp 37) rfl hb3 (.inl rfl) 4 rfl rfl to 0 tc (tailL f 0) rfl (tailL_length f 0) T3.nil T3.cells (tailL_one f 0) (by omega) ?_; intro w4 hb4; clear T3 hb3; have T4 : TailAt w4 to 0 tc f := hT.out.later (fun a ha => (hb4.bel.cell (by omega)).trans (wb_cell W1 _ _ _ a ha))) | (go_at_call 8; refine (read_any (W1.heap.size + 1 + 1 + 1) (4 + 0) (0 + 4) (by0 v) (by1 v) (by2 v) (by3 v) w4 hb4.lt (by omega) (by omega) (by omega) ((hb4.cell 0 (by have := ft_len v f 0; omega)).trans (ft_get0 v _)) ((hb4.cell 1 (by have := ft_len v f 0; omega)).trans (ft_get1 v _)) ((hb4.cell 2 (by have := ft_len v f 0; omega)).trans (ft_get2 v _)) ((hb4.cell 3 (by have := ft_len v f 0; omega)).trans (ft_get3 v _)) hy0 hy1 hy2 hy3).mono ?_; rw [HR.out]; rintro e w5 ⟨rfl, kk, rfl⟩) | (go_at_call 9; refine (same_nil _ _ _ _ _).mono ?_; rintro e w6 ⟨rfl, k2, rfl⟩) | go_in)
    go_ret
    have hb : Below w.heap.size w w4 := (((hB.out.alloc hsz _).alloc (by simp; omega) _).alloc (by simp; omega) _).trans (hb4.bel.mono (by omega))
    have hs4 := hb.size
    exact ⟨rfl, by repeat' (first | exact hb | refine below_drewN ?_ _ | refine Below.alloc ?_ ?_ _ | exact hs4)⟩
  · obtain ⟨t, rfl⟩ : ∃ t, to = some ⟨t, 0, none⟩ := by
      cases hto : to with
      | none => exact absurd (hT.out.nil hto).1 hn0
      | some x =>
        obtain ⟨t, e, _⟩ := hT.out.row x hto
        exact ⟨t, by rw [e]⟩
    have HR : Hid (restV (W1.heap.size + 1 + 1 + 1) (4 + n) (n + 4) = .slice (some ⟨W1.heap.size + 1 + 1 + 1, 4, none⟩) n n) := (show _ = _ by unfold restV; rw [if_neg (by omega), show 4 + n - 4 = n by omega, show n + 4 - 4 = n by omega])
    go_enter Try.func3, Try.ntmps3
    go_wp2_with (first | (go_at_call 6; refine CLN.out.mono ?_; rintro e w1 ⟨rfl, rfl⟩) | (go_at_call 7; refine (le32_any v _ hv).mono ?_; rintro e w1 ⟨rfl, d1, d2, rfl⟩) | (at_make; refine bf_make _ rfl _ _ rfl (W1.heap.size + 1 + 1 + 1) (n + 4) (by simp) _ rfl rfl (by omega) (by omega) ?_; intro w2 hb2; have k0 : w2.cell? ⟨W1.heap.size + 1 + 1, 0, none⟩ = some (.int .u8 (by0 v)) := (hb2.bel.cell (by simp)).trans (by simp [go_sem]); have k1 : w2.cell? ⟨W1.heap.size + 1 + 1, 1, none⟩ = some (.int .u8 (by1 v)) := (hb2.bel.cell (by simp)).trans (by simp [go_sem]); have k2 : w2.cell? ⟨W1.heap.size + 1 + 1, 2, none⟩ = some (.int .u8 (by2 v)) := (hb2.bel.cell (by simp)).trans (by simp [go_sem]); have k3 : w2.cell? ⟨W1.heap.size + 1 + 1, 3, none⟩ = some (.int .u8 (by3 v)) := (hb2.bel.cell (by simp)).trans (by simp [go_sem])) | (at_builtin; refine bf_app rfl (.tmp 25) (.tmp 34) rfl hb2 (.inr ⟨_, rfl⟩) 0 rfl rfl _ 4 4 (four v) rfl rfl (fun h => by cases h) (four_at v w2) (four_one v) (by omega) ?_; intro w3 hb3; rw [List.nil_append] at hb3; clear hb2 k0 k1 k2 k3; have T3 : TailAt w3 (some ⟨t, 0, none⟩) n tc f := hT.out.later (fun a ha => (hb3.bel.cell (by omega)).trans (wb_cell W1 _ _ _ a ha))) | (at_builtin; refine bf_app rfl (.tmp 36) (.tmp 37) rfl hb3 (.inl rfl) 4 rfl rfl (some ⟨t, 0, none⟩) n tc (tailL f n) rfl (tailL_length f n) T3.nil T3.cells (tailL_one f n) (by omega) ?_; intro w4 hb4; clear T3 hb3; have T4 : TailAt w4 (some ⟨t, 0, none⟩) n tc f := hT.out.later (fun a ha => (hb4.bel.cell (by omega)).trans (wb_cell W1 _ _ _ a ha))) | (go_at_call 8; refine (read_any (W1.heap.size + 1 + 1 + 1) (4 + n) (n + 4) (by0 v) (by1 v) (by2 v) (by3 v) w4 hb4.lt (by omega) (by omega) (by omega) ((hb4.cell 0 (by have := ft_len v f n; omega)).trans (ft_get0 v _)) ((hb4.cell 1 (by have := ft_len v f n; omega)).trans (ft_get1 v _)) ((hb4.cell 2 (by have := ft_len v f n; omega)).trans (ft_get2 v _)) ((hb4.cell 3 (by have := ft_len v f n; omega)).trans (ft_get3 v _)) hy0 hy1 hy2 hy3).mono ?_; rw [HR.out]; rintro e w5 ⟨rfl, kk, rfl⟩) | (go_at_call 9; refine (same_row (W1.heap.size + 1 + 1 + 1) 4 _ t 0 _ n f _ (by omega) ?_ ?_).mono ?_; rotate_right; rintro e w6 ⟨rfl, k2, rfl⟩) | go_in)
    · go_ret
      have hb : Below w.heap.size w w4 := (((hB.out.alloc hsz _).alloc (by simp; omega) _).alloc (by simp; omega) _).trans (hb4.bel.mono (by omega))
      have hs4 := hb.size
      exact ⟨rfl, by repeat' (first | exact hb | refine below_drewN ?_ _ | refine Below.alloc ?_ ?_ _ | exact hs4)⟩
    · intro i hi
      rw [World.cell?_drewN, World.cell?_alloc_lt _ _ _ hb4.lt]
      exact (hb4.cell (4 + i) (by rw [ft_len]; omega)).trans (ft_get4 v f n i hi)
    · intro i hi
      obtain ⟨t', e, hc⟩ := T4.row _ rfl
      cases e
      have hci := hc i hi
      rw [World.cell?_drewN, World.cell?_alloc_lt _ _ _ (by rw [Nat.zero_add]; exact block_lt_of_cell hci), Nat.zero_add]
      exact hci

/-- Whatever tail comes in: its clone, and what the walk asks of it. -/
theorem rt_any (v : Int) (hv : 0 ≤ v ∧ v ≤ 4294967295) (ao : Option Addr) (n cap : Nat) (zs : List Int) (w : World) (hn : n ≤ 1048576)
    (hrow : (ao = none ∧ n = 0 ∧ cap = 0) ∨ ∃ x, ao = some x ∧ ∀ i, i < n → w.cell? (x.add i) = some (.int .u8 (zs.getD i 0))) :
    Calls Try.prog 3 #[.int .u32 v, .slice ao n cap] w fun e w' => e = .returned (.bool true) ∧ Below w.heap.size w w' := by
  rcases hrow with ⟨rfl, rfl, rfl⟩ | ⟨x, rfl, hc⟩
  · exact rt_walk v hv none 0 0 (fun _ => 0) w hn w none 0 (clone_nil w) (⟨fun _ => ⟨rfl, rfl⟩, fun x hx => by cases hx⟩ : TailAt w none 0 0 _) (Below.refl w.heap.size w)
  · by_cases h0 : n = 0
    · subst h0
      refine rt_walk v hv (some x) 0 cap (fun _ => 0) w hn (w.alloc (.cells (cpC [] 0 0) 5)) (some ⟨w.heap.size, 0, none⟩) 0 (clone_empty w x cap) ?_ ((Below.refl w.heap.size w).alloc (Nat.le_refl _) _)
      show TailAt (w.alloc (.cells (cpC [] 0 0) 5)) (some ⟨w.heap.size, 0, none⟩) 0 0 (fun _ => 0)
      exact ⟨fun h => (by cases h), fun x hx => ⟨w.heap.size, (by cases hx; rfl), fun i hi => by omega⟩⟩
    · obtain ⟨b, off, spot⟩ := x
      have hspot : spot = none := by simpa [Addr.add] using World.cell?_spot (hc 0 (by omega))
      subst hspot
      have hc' : ∀ i, i < n → w.cell? ⟨b, off + i, none⟩ = some (.int .u8 (zs.getD i 0)) := fun i hi => by
        rw [← Go.WideShapes.add_plain]; exact hc i hi
      have hb : b < w.heap.size := block_lt_of_cell (hc' 0 (by omega))
      refine rt_walk v hv _ n cap (fun i => zs.getD i 0) w hn (w.alloc (.cells (cpC zs n n) 5)) (some ⟨w.heap.size, 0, none⟩) n (clone_row w b off n cap zs hn hc' hb) ?_ ((Below.refl w.heap.size w).alloc (Nat.le_refl _) _)
      show TailAt (w.alloc (.cells (cpC zs n n) 5)) (some ⟨w.heap.size, 0, none⟩) n n (fun i => zs.getD i 0)
      exact ⟨fun h => (by cases h), fun x hx => ⟨w.heap.size, (by cases hx; rfl), fun i hi => cp_cell w zs n i hi⟩⟩
end Go.Proofs.Qxb6001796a
