/-
  modelJoin: the walk. By an AI agent. No person has read it.
-/
import Derived.Test.Qxb6000613aJoin
import Derived.Deep.QuietTactic
import Derived.BigQuiet
import Derived.WalkSmall
namespace Go.Proofs.Qxb6000613a
open Go.RowKit Go.Maps

theorem info9 : (Try.prog.info? 9).map (fun i => (i.zero, i.size, i.bytes)) = some (some (.string ByteArray.empty), 1, 16) := by kernel_rfl

/-- The slice uv of strings, in memory of the call's own, holds us. -/
structure US (w : World) (us : List ByteArray) (uv : Value) (wr : World) : Prop where
  own : wr.ownsRow w.heap.size 9 1 uv us.length (us.map Value.string)
  bel : Below w.heap.size w wr
theorem us_nil (w : World) : US w [] (.slice none 0 0) w := ⟨World.ownsRow_nil _ _ _ _, Below.refl _ _⟩
theorem US.drewN {w : World} {us : List ByteArray} {uv : Value} {wr : World} (h : US w us uv wr) (n : Nat) : US w us uv (wr.drewN n) := ⟨h.own, below_drewN h.bel n⟩
/-- Its shape, and its cells. -/
theorem US.view {w : World} {us : List ByteArray} {uv : Value} {wr : World} (h : US w us uv wr) : ∃ ao cap, uv = .slice ao us.length cap ∧ (us ≠ [] → ∃ t, ao = some ⟨t, 0, none⟩) ∧ ∀ t, ao = some ⟨t, 0, none⟩ → ∀ j, j < us.length → wr.cell? ⟨t, j, none⟩ = some (.string (us.getD j ByteArray.empty)) := by
  rcases h.own.2 with ⟨hv, h0⟩ | ⟨g, cap, cur, hv, _⟩
  · refine ⟨none, 0, by rw [hv, h0], fun hne => absurd (List.eq_nil_of_length_eq_zero h0) hne, fun t ht => by cases ht⟩
  · refine ⟨some ⟨g, 0, none⟩, cap, hv, fun _ => ⟨g, rfl⟩, fun t ht j hj => ?_⟩
    cases ht
    have ho := h.own
    rw [hv] at ho
    have := ho.cellAt j (by omega)
    rw [this, List.getElem?_map, List.getElem?_eq_getElem hj]
    simp [List.getD, List.getElem?_eq_getElem hj]

theorem wpList_us {ops : Array Oper} {rest : List Oper} {o : Oper} {a : Act} {Q : Exit → Act → World → Prop} (hgd : o.guard = none) (sl x : Operand)
    (ho : o.op = .call { callee := .builtin .append, args := #[sl, x], argTypes := #[39, 39] })
    {w wr : World} {v : Value} {us : List ByteArray} (s : ByteArray) (hn : US w us v wr) (hs : a.eval sl = v) (hx : a.eval x = .slice (some ⟨wr.heap.size, 0, none⟩) 1 1)
    (hlen : us.length ≤ 4096)
    (h : ∀ v' w', US w (us ++ [s]) v' w' → wpList Try.prog ops Q rest (a.put o.dst v') w') :
    wpList Try.prog ops Q (o :: rest) a (wr.alloc (.cells #[.string s] 9)) := by
  obtain ⟨i0, hi, hz0, hz1, hz2⟩ := info_parts info9
  have hb := hn.bel.size
  refine wpList_append_own _ hgd sl x 39 ho w.heap.size 9 i0 (.string ByteArray.empty) 1 16 Try.underlying39 hi hz0 hz1 hz2 rfl (by decide) v us.length (us.map Value.string) hs (hn.own.alloc _) ⟨wr.heap.size, 0, none⟩ 1 1 [.string s] hx rfl ?_ ?_ (by unfold maxLen; omega) (by omega) (by simp; omega) ?_
  · intro j u hj
    have e : (⟨wr.heap.size, 0, none⟩ : Addr).add j = ⟨wr.heap.size, j, none⟩ := by unfold Addr.add; split <;> simp_all
    rw [e, World.cell?_alloc_at _ _ _ _ rfl]
    simpa using hj
  · intro u hu
    rw [List.mem_singleton] at hu
    subst hu
    rfl
  · intro v' w' hown hgrow _
    have hb2 : w.heap.size ≤ (wr.alloc (.cells #[.string s] 9)).heap.size := by simp; omega
    refine h v' w' ⟨?_, ?_⟩
    · rw [List.length_append, List.map_append]; exact hown
    · exact (hn.bel.alloc hb _).grown hgrow hb2 (fun k hk => (hn.own.lt k hk).1)

theorem toList_is (s : ByteArray) : s.toList = s.data.toList := ByteArray.toList_eq s

/-! ### how long what modelJoin writes can be -/
def uS (u : List (List UInt8)) : Nat := (u.map fun x => 2 + x.length).sum
theorem uS_append (a b : List (List UInt8)) : uS (a ++ b) = uS a + uS b := by unfold uS; rw [List.map_append, List.sum_append]
theorem uS_dd (ms : List (List UInt8)) : ∀ k, k ≤ ms.length → uS (ddTo ms k) ≤ totTo ms k
  | 0, _ => by simp [ddTo, uS]
  | k + 1, h => by
    have ih := uS_dd ms k (by omega)
    rw [ddTo_succ ms k (by omega)]
    simp only [totTo]
    by_cases hm : ms.getD k [] ∈ ddTo ms k
    · rw [ad_in hm]; omega
    · rw [ad_out hm, uS_append]
      have : uS [ms.getD k []] = 2 + (ms.getD k []).length := by simp [uS]
      omega
theorem sep_length : ∀ u : List (List UInt8), (sep u).length = uS u
  | [] => rfl
  | x :: xs => by
    have := sep_length xs
    have e1 : sep (x :: xs) = [59, 32] ++ x ++ sep xs := by unfold sep; simp
    have e2 : uS (x :: xs) = 2 + x.length + uS xs := by unfold uS; simp
    rw [e1, e2, List.length_append, List.length_append, this]
    simp only [List.length_cons, List.length_nil]
theorem sj_length (u : List (List UInt8)) : (sj u).length ≤ uS u := by
  cases u with
  | nil => simp [sj]
  | cons x xs =>
    have e2 : uS (x :: xs) = 2 + x.length + uS xs := by unfold uS; simp
    simp only [sj]
    rw [List.length_append, sep_length, e2]
    omega
theorem MTo_length (u : List (List UInt8)) (k d : Nat) (h : k + d ≤ u.length) : (MTo u k d).length ≤ uS u := by
  rw [MTo_sj u k d h]
  have h1 := sj_length ((u.drop k).take d)
  have h2 : uS u = uS (u.take k) + uS (u.drop k) := by rw [← uS_append, List.take_append_drop]
  have h3 : uS (u.drop k) = uS ((u.drop k).take d) + uS ((u.drop k).drop d) := by rw [← uS_append, List.take_append_drop]
  omega

/-! ### two rows of the call's own: the distinct messages, and the bytes written -/
theorem rows_apart {B n m : Nat} {uv v : Value} {xs ys : List Value} {w : World} (h1 : w.ownsRow B 9 1 uv n xs) (h2 : w.ownsRow B 5 1 v m ys) : uv.ownBlock = none ∨ uv.ownBlock ≠ v.ownBlock := by
  rcases h1.2 with ⟨e, _⟩ | ⟨g, cap, cur, e, _, hg, _⟩
  · left; rw [e]; rfl
  · right
    rcases h2.2 with ⟨e2, _⟩ | ⟨g2, cap2, cur2, e2, _, hg2, _⟩
    · rw [e, e2]; intro h; cases h
    · rw [e, e2]
      intro h
      have : g = g2 := by simpa [Value.ownBlock] using h
      subst this
      rw [hg] at hg2
      cases hg2
structure MS (w : World) (us : List ByteArray) (uv v : Value) (acc : List UInt8) (wr : World) : Prop where
  u : US w us uv wr
  o : wr.ownsRow w.heap.size 5 1 v acc.length (Lib.byteCells acc)
theorem ms_start {w : World} {us : List ByteArray} {uv : Value} {wr : World} (h : US w us uv wr) : MS w us uv (.slice none 0 0) [] wr := ⟨h, World.ownsRow_nil _ _ _ _⟩

theorem wpList_ms2 {ops : Array Oper} {rest : List Oper} {o : Oper} {a : Act} {Q : Exit → Act → World → Prop} (hgd : o.guard = none) (sl x : Operand)
    (ho : o.op = .call { callee := .builtin .append, args := #[sl, x], argTypes := #[26, 26] })
    {w wr : World} {us : List ByteArray} {uv v : Value} {acc : List UInt8} (hn : MS w us uv v acc wr) (hs : a.eval sl = v) (hx : a.eval x = .slice (some ⟨wr.heap.size, 0, none⟩) 2 2)
    (hlen : acc.length ≤ 2097152)
    (h : ∀ v' w', MS w us uv v' (acc ++ [59, 32]) w' → wpList Try.prog ops Q rest (a.put o.dst v') w') :
    wpList Try.prog ops Q (o :: rest) a (wr.alloc (.cells #[.int .u8 59, .int .u8 32] 5)) := by
  obtain ⟨i0, hi, hz0, hz1, hz2⟩ := info_parts infoB
  have hb := hn.u.bel.size
  refine wpList_append_own _ hgd sl x 26 ho w.heap.size 5 i0 (.int .u8 0) 1 1 Try.underlying26 hi hz0 hz1 hz2 rfl (by decide) v acc.length (Lib.byteCells acc) hs (hn.o.alloc _) ⟨wr.heap.size, 0, none⟩ 2 2 [.int .u8 59, .int .u8 32] hx rfl ?_ ?_ (by unfold maxLen; omega) (by omega) (by simp; omega) ?_
  · intro j u hj
    have e : (⟨wr.heap.size, 0, none⟩ : Addr).add j = ⟨wr.heap.size, j, none⟩ := by unfold Addr.add; split <;> simp_all
    rw [e, World.cell?_alloc_at _ _ _ _ rfl]
    simpa using hj
  · intro u hu
    simp only [List.mem_cons, List.not_mem_nil, or_false] at hu
    rcases hu with rfl | rfl <;> rfl
  · intro v' w' hown hgrow _
    have hb2 : w.heap.size ≤ (wr.alloc (.cells #[.int .u8 59, .int .u8 32] 5)).heap.size := by simp; omega
    refine h v' w' ⟨⟨?_, ?_⟩, ?_⟩
    · exact (hn.u.own.alloc _).kept hgrow (rows_apart hn.u.own hn.o)
    · exact (hn.u.bel.alloc hb _).grown hgrow hb2 (fun k hk => (hn.o.lt k hk).1)
    · rw [List.length_append, Lib.byteCells_append]; exact hown

theorem wpList_msS {ops : Array Oper} {rest : List Oper} {o : Oper} {a : Act} {Q : Exit → Act → World → Prop} (hgd : o.guard = none) (sl x : Operand)
    (ho : o.op = .call { callee := .builtin .append, args := #[sl, x], argTypes := #[26, 9] })
    {w wr : World} {us : List ByteArray} {uv v : Value} {acc : List UInt8} (s : ByteArray) (hn : MS w us uv v acc wr) (hs : a.eval sl = v) (hx : a.eval x = .string s)
    (hlen : acc.length + s.size ≤ 4194304)
    (h : ∀ v' w', MS w us uv v' (acc ++ s.data.toList) w' → wpList Try.prog ops Q rest (a.put o.dst v') w') :
    wpList Try.prog ops Q (o :: rest) a wr := by
  obtain ⟨i0, hi, hz0, hz1, hz2⟩ := info_parts infoB
  have hb := hn.u.bel.size
  refine Lib.wpList_append_own_string _ hgd sl x 26 9 ho w.heap.size 5 i0 Try.underlying26 Try.underlying9 hi hz0 hz1 hz2 v acc.length (Lib.byteCells acc) hs hn.o s hx (by unfold maxLen; omega) (by omega) (by omega) ?_
  intro v' w' hown hgrow _
  refine h v' w' ⟨⟨?_, ?_⟩, ?_⟩
  · exact hn.u.own.kept hgrow (rows_apart hn.u.own hn.o)
  · exact hn.u.bel.grown hgrow hb (fun k hk => (hn.o.lt k hk).1)
  · have e : (acc ++ s.data.toList).length = acc.length + s.size := by rw [List.length_append, Array.length_toList]; rfl
    rw [e, Lib.byteCells_append, ← Lib.strCells_eq]
    exact hown
/-- string(out). -/
theorem ms_string {w : World} {us : List ByteArray} {uv v : Value} {acc : List UInt8} {wr : World} (h : MS w us uv v acc wr) : (convert 26 9 v).run Try.prog wr = .ok (.string ⟨acc.toArray⟩) wr := by
  rcases h.o.2 with ⟨hv, h0⟩ | ⟨g, cap, cur, hv, _⟩
  · have ha : acc = [] := List.eq_nil_of_length_eq_zero h0
    rw [hv, ha]
    exact run_convert_bytes_nil wr 26 5 Try.underlying26 Try.underlying5 0 0 9 Try.underlying9
  · have ho := h.o
    rw [hv] at ho ⊢
    have := run_convert_bytes_arg (P := Try.prog) wr 26 5 Try.underlying26 Try.underlying5 g 0 acc.length cap (acc.map fun b => (b.toNat : Int)) (by simp) (fun i hi => by
      have hc := ho.cellAt i (by omega)
      rw [Nat.zero_add, hc]
      simp [Lib.byteCells, List.getD, List.getElem?_eq_getElem hi]) 9 Try.underlying9
    rw [this]
    congr 2
    unfold strOfNums
    congr 2
    rw [List.map_map]
    have e : ((fun n : Int => UInt8.ofNat n.toNat) ∘ fun b : UInt8 => (b.toNat : Int)) = id := by funext b; simp
    rw [e, List.map_id]

theorem US.cells {w : World} {us : List ByteArray} {t cap : Nat} {wr : World} (h : US w us (.slice (some ⟨t, 0, none⟩) us.length cap) wr) (j : Nat) (hj : j < us.length) : wr.cell? ⟨t, j, none⟩ = some (.string (us.getD j ByteArray.empty)) := by
  have := h.own.cellAt j (by omega)
  rw [this, List.getElem?_map, List.getElem?_eq_getElem hj]
  simp [List.getD, List.getElem?_eq_getElem hj]
theorem ret_str {a b : List UInt8} (h : a = b) : Ending.returned (.string ⟨a.toArray⟩) = .returned (.string ⟨b.toArray⟩) := by rw [h]
theorem ms_eq {w : World} {us : List ByteArray} {uv v : Value} {acc acc' : List UInt8} {wr : World} (h : MS w us uv v acc wr) (e : acc = acc') : MS w us uv v acc' wr := by subst e; exact h
set_option maxHeartbeats 2000000 in
theorem model_walk (g off n cap : Nat) (ss : List ByteArray) (ms : List (List UInt8)) (w : World) (hn : n ≤ 4096) (hl : ms.length = n)
    (hms : ∀ i, i < n → ms.getD i [] = (ss.getD i ByteArray.empty).data.toList)
    (hc : ∀ i, i < n → w.cell? ⟨g, off + i, none⟩ = some (.string (ss.getD i ByteArray.empty))) (hg : g < w.heap.size) (ht : totTo ms n ≤ 1048576) :
    Calls Try.prog 27 #[.slice (some ⟨g, off, none⟩) n cap] w fun e w' => e = .returned (.string ⟨(MTo (ddTo ms n) (kOf (ddTo ms n)) ((ddTo ms n).length - kOf (ddTo ms n))).toArray⟩) ∧ Below w.heap.size w w' := by
  have HC : Hid (∀ i, i < n → w.cell? ⟨g, off + i, none⟩ = some (.string (ss.getD i ByteArray.empty))) := hc
  have HM : Hid (∀ i, i < n → ms.getD i [] = (ss.getD i ByteArray.empty).data.toList) := hms
  clear hc hms
  go_enter Try.func27, Try.ntmps27
  go_wp2
  go_loopw [3, 4] (fun v i wr => ∃ (k : Nat) (us : List ByteArray), k ≤ n ∧ i = .int .i64 k ∧ Hid (US w us v wr) ∧ Hid (us.map (fun s => s.data.toList) = ddTo ms k)) (fun _ i _ => n - (intOf i).toNat)
  case atStart => exact ⟨0, [], Nat.zero_le _, rfl, us_nil w, rfl⟩
  case round =>
    obtain ⟨k, us, hk, rfl, hus, hdd⟩ := hrel
    obtain ⟨ao, ucap, rfl, hne, hcells⟩ := hus.out.view
    have hul : us.length ≤ 4096 := by
      have h1 := ddTo_length ms k (by omega)
      rw [← hdd.out, List.length_map] at h1
      omega
    by_cases hlt : k < n
    · obtain ⟨s, hs⟩ : ∃ s, s = ss.getD k ByteArray.empty := ⟨_, rfl⟩
      have hcell : wr.cell? ⟨g, off + k, none⟩ = some (.string s) := by rw [hs]; exact (hus.out.bel.cell (by exact hg)).trans (HC.out k hlt)
      have hmk : Hid (ms.getD k [] = s.data.toList) := (show _ = _ by rw [hs]; exact HM.out k hlt)
      clear hs
      have HNE : Hid (us ≠ [] → ∃ t, ao = some ⟨t, 0, none⟩) := hne
      have HCL : Hid (∀ t, ao = some ⟨t, 0, none⟩ → ∀ j, j < us.length → wr.cell? ⟨t, j, none⟩ = some (.string (us.getD j ByteArray.empty))) := hcells
      clear hne hcells
      go_wp2
      go_loopw [5, 6] (fun d jv wx => ∃ (j m : Nat), j ≤ us.length ∧ d = .bool false ∧ jv = .int .i64 j ∧ wx = wr.drewN m ∧ Hid (∀ i, i < j → (us.getD i ByteArray.empty).data.toList ≠ s.data.toList)) (fun _ jv _ => us.length - (intOf jv).toNat)
      case atStart => exact ⟨0, 0, Nat.zero_le _, rfl, rfl, rfl, fun i hi => by omega⟩
      case round =>
        obtain ⟨j, m, hj, rfl, rfl, rfl, hno⟩ := hrel
        by_cases hjl : j < us.length
        · obtain ⟨t, hao⟩ := HNE.out (by intro e; rw [e] at hjl; simp at hjl)
          subst hao
          have hcu := HCL.out t rfl j hjl
          obtain ⟨x, hx⟩ : ∃ x, x = us.getD j ByteArray.empty := ⟨_, rfl⟩
          rw [← hx] at hcu
          have HX : Hid (x = us.getD j ByteArray.empty) := hx
          clear hx
          by_cases hxs : (x.toList == s.toList) = true
          · have hin : Hid (ddTo ms (k + 1) = ddTo ms k) := (show _ = _ by
              rw [ddTo_succ ms k (by omega), hmk.out]
              refine ad_in ?_
              rw [← hdd.out, List.mem_map]
              refine ⟨x, ?_, ?_⟩
              · rw [HX.out, List.getD, List.getElem?_eq_getElem hjl]; exact List.getElem_mem hjl
              · rw [beq_iff_eq] at hxs
                rw [← toList_is, ← toList_is]; exact hxs)
            go_wp2
            go_quiet (fail)
            go_wp2_with fail
            go_roundw
            case rel => exact ⟨k + 1, us, by omega, by go_num, hus.out.drewN _, by rw [hin.out]; exact hdd.out⟩
            case measure => simp [intOf]; omega
          · have hxs' : (x.toList == s.toList) = false := by simpa using hxs
            have hne : Hid (x.data.toList ≠ s.data.toList) := (show _ ≠ _ by
              intro e
              rw [← toList_is, ← toList_is] at e
              exact hxs (by rw [beq_iff_eq]; exact e))
            clear hxs
            go_wp2
            go_quiet (fail)
            go_wp2_with fail
            go_roundw
            case rel =>
              refine ⟨j + 1, _, by omega, rfl, by go_num, rfl, fun i hi => ?_⟩
              by_cases e : i = j
              · rw [e, ← HX.out]; exact hne.out
              · exact hno.out i (by omega)
            case measure => simp [intOf]; omega
        · have hout : Hid (ddTo ms (k + 1) = ddTo ms k ++ [s.data.toList]) := (show _ = _ by
            rw [ddTo_succ ms k (by omega), hmk.out]
            refine ad_out ?_
            rw [← hdd.out, List.mem_map]
            rintro ⟨y, hy, e⟩
            obtain ⟨i, hi, rfl⟩ := List.getElem_of_mem hy
            refine hno.out i (by omega) ?_
            rw [List.getD, List.getElem?_eq_getElem hi]
            exact e)
          go_wp2_with (at_builtin; refine wpList_us rfl (.tmp 33) (.tmp 38) rfl s (hus.out.drewN _) rfl rfl hul ?_; intro v3 w3 hu3)
          go_roundw
          case rel => exact ⟨k + 1, us ++ [s], by omega, by go_num, hu3, by rw [List.map_append, hdd.out, hout.out]; rfl⟩
          case measure => simp [intOf]; omega
    · obtain rfl : k = n := by omega
      have HLEN : Hid ((ddTo ms k).length = us.length) := (show _ = _ by rw [← hdd.out, List.length_map])
      have HGET : Hid (∀ j, j < us.length → (ddTo ms k).getD j [] = (us.getD j ByteArray.empty).data.toList) := fun j hj => by
        rw [← hdd.out, List.getD, List.getElem?_map, List.getElem?_eq_getElem hj, List.getD, List.getElem?_eq_getElem hj]; rfl
      have HUS : Hid (uS (ddTo ms k) ≤ 1048576) := (show _ ≤ _ by have := uS_dd ms k (by omega); omega)
      by_cases hz : us = []
      · subst hz
        have HE : Hid (ddTo ms k = []) := List.eq_nil_of_length_eq_zero HLEN.out
        have hcv := run_convert_bytes_nil (P := Try.prog) wr 26 5 Try.underlying26 Try.underlying5 0 0 9 Try.underlying9
        clear hdd
        go_wp2
        refine wp_loop_rounds 1 ?_
        rw [rounds_succ]
        go_wp2
        go_ret
        exact ⟨by rw [HE.out]; rfl, hus.out.bel⟩
      · obtain ⟨t, rfl⟩ := hne hz
        have hpos : 0 < us.length := List.length_pos_iff.2 hz
        have hc0 := hcells t rfl 0 hpos
        obtain ⟨x0, hx0⟩ : ∃ x, x = us.getD 0 ByteArray.empty := ⟨_, rfl⟩
        rw [← hx0] at hc0
        have HD : Hid ((ddTo ms k).head? = some x0.data.toList) := (show _ = _ by
          have h1 := HGET.out 0 hpos
          rw [← hx0] at h1
          have h2 : 0 < (ddTo ms k).length := by rw [HLEN.out]; exact hpos
          rw [List.head?_eq_getElem?, List.getElem?_eq_getElem h2]
          rw [List.getD, List.getElem?_eq_getElem h2] at h1
          rw [← h1]; rfl)
        clear hx0 hne hcells hdd hz
        by_cases he : x0.toList.isEmpty = true
        · have HK : Hid (kOf (ddTo ms k) = 1) := (show _ = _ by
            unfold kOf; rw [HD.out]
            rw [toList_is, List.isEmpty_iff] at he
            rw [if_pos (by rw [he])])
          go_wp2
          go_loopw [8, 9] (fun v i wx => ∃ d : Nat, 1 + d ≤ us.length ∧ i = .int .i64 ((1 : Nat) + (d : Nat) : Nat) ∧ Hid (MS w us (.slice (some ⟨t, 0, none⟩) us.length ucap) v (MTo (ddTo ms k) 1 d) wx)) (fun _ i _ => us.length - (intOf i).toNat)
          case atStart => exact ⟨0, by omega, rfl, ms_start hus.out⟩
          case round =>
            obtain ⟨d, hd, rfl, hms⟩ := hrel
            by_cases hlt : 1 + d < us.length
            · obtain ⟨x, hx⟩ : ∃ x, x = us.getD (1 + d) ByteArray.empty := ⟨_, rfl⟩
              have hcu : wr.cell? ⟨t, 1 + d, none⟩ = some (.string x) := by rw [hx]; exact hms.out.u.cells (1 + d) hlt
              have HXU : Hid (x = us.getD (1 + d) ByteArray.empty) := hx
              have HX : Hid ((ddTo ms k).getD (1 + d) [] = x.data.toList) := (show _ = _ by rw [hx]; exact HGET.out _ hlt)
              have HL1 : Hid ((MTo (ddTo ms k) 1 d).length ≤ 1048576) := (show _ ≤ _ by have := MTo_length (ddTo ms k) 1 d (by rw [HLEN.out]; omega); have := HUS.out; omega)
              have HL2 : Hid ((MTo (ddTo ms k) 1 (d + 1)).length ≤ 1048576) := (show _ ≤ _ by have := MTo_length (ddTo ms k) 1 (d + 1) (by rw [HLEN.out]; omega); have := HUS.out; omega)
              have hxl : x.size ≤ 1048576 := by
                have h1 := HL2.out
                simp only [MTo, List.length_append] at h1
                rw [HX.out] at h1
                have h2 : x.data.toList.length = x.size := by rw [Array.length_toList]; rfl
                omega
              clear hx
              by_cases hd0 : 0 < d
              · go_wp2_with (first | (at_builtin; refine wpList_ms2 rfl (.tmp 59) (.tmp 60) rfl hms.out rfl rfl (by have := HL1.out; omega) ?_; intro v3 w3 h3; have hcu3 : w3.cell? ⟨t, 1 + d, none⟩ = some (.string x) := (by rw [HXU.out]; exact h3.u.cells (1 + d) hlt)) | (at_builtin; refine wpList_msS rfl (.tmp 62) (.tmp 66) rfl x h3 rfl rfl (by have := HL1.out; rw [List.length_append]; simp only [List.length_cons, List.length_nil]; omega) ?_; intro v4 w4 h4))
                go_roundw
                case rel => exact ⟨d + 1, by omega, by go_num, ms_eq h4 (by simp only [MTo]; rw [if_pos hd0, HX.out])⟩
                case measure => simp [intOf]; omega
              · go_wp2_with (at_builtin; refine wpList_msS rfl (.tmp 62) (.tmp 66) rfl x hms.out rfl rfl (by have := HL1.out; omega) ?_; intro v4 w4 h4)
                go_roundw
                case rel => exact ⟨d + 1, by omega, by go_num, ms_eq h4 (by simp only [MTo]; rw [if_neg hd0, HX.out, List.append_nil])⟩
                case measure => simp [intOf]; omega
            · have hcv := ms_string hms.out
              go_wp2
              go_ret
              exact ⟨ret_str (by rw [HK.out, HLEN.out, show us.length - 1 = d by omega]), hms.out.u.bel⟩
        · have he' : x0.toList.isEmpty = false := by simpa using he
          have HK : Hid (kOf (ddTo ms k) = 0) := (show _ = _ by
            unfold kOf; rw [HD.out]
            rw [toList_is, List.isEmpty_iff] at he
            rw [if_neg (by intro h; injection h with h; exact he h)])
          clear he
          go_wp2
          go_loopw [8, 9] (fun v i wx => ∃ d : Nat, d ≤ us.length ∧ i = .int .i64 (d : Nat) ∧ Hid (MS w us (.slice (some ⟨t, 0, none⟩) us.length ucap) v (MTo (ddTo ms k) 0 d) wx)) (fun _ i _ => us.length - (intOf i).toNat)
          case atStart => exact ⟨0, by omega, rfl, ms_start hus.out⟩
          case round =>
            obtain ⟨d, hd, rfl, hms⟩ := hrel
            by_cases hlt : d < us.length
            · obtain ⟨x, hx⟩ : ∃ x, x = us.getD d ByteArray.empty := ⟨_, rfl⟩
              have hcu : wr.cell? ⟨t, d, none⟩ = some (.string x) := by rw [hx]; exact hms.out.u.cells d hlt
              have HXU : Hid (x = us.getD d ByteArray.empty) := hx
              have HX : Hid ((ddTo ms k).getD d [] = x.data.toList) := (show _ = _ by rw [hx]; exact HGET.out _ hlt)
              have HL1 : Hid ((MTo (ddTo ms k) 0 d).length ≤ 1048576) := (show _ ≤ _ by have := MTo_length (ddTo ms k) 0 d (by rw [HLEN.out]; omega); have := HUS.out; omega)
              have HL2 : Hid ((MTo (ddTo ms k) 0 (d + 1)).length ≤ 1048576) := (show _ ≤ _ by have := MTo_length (ddTo ms k) 0 (d + 1) (by rw [HLEN.out]; omega); have := HUS.out; omega)
              have hxl : x.size ≤ 1048576 := by
                have h1 := HL2.out
                simp only [MTo, List.length_append, Nat.zero_add] at h1
                rw [HX.out] at h1
                have h2 : x.data.toList.length = x.size := by rw [Array.length_toList]; rfl
                omega
              clear hx
              by_cases hd0 : 0 < d
              · go_wp2_with (first | (at_builtin; refine wpList_ms2 rfl (.tmp 59) (.tmp 60) rfl hms.out rfl rfl (by have := HL1.out; omega) ?_; intro v3 w3 h3; have hcu3 : w3.cell? ⟨t, d, none⟩ = some (.string x) := (by rw [HXU.out]; exact h3.u.cells d hlt)) | (at_builtin; refine wpList_msS rfl (.tmp 62) (.tmp 66) rfl x h3 rfl rfl (by have := HL1.out; rw [List.length_append]; simp only [List.length_cons, List.length_nil]; omega) ?_; intro v4 w4 h4))
                go_roundw
                case rel => exact ⟨d + 1, by omega, by go_num, ms_eq h4 (by simp only [MTo, Nat.zero_add]; rw [if_pos hd0, HX.out])⟩
                case measure => simp [intOf]; omega
              · go_wp2_with (at_builtin; refine wpList_msS rfl (.tmp 62) (.tmp 66) rfl x hms.out rfl rfl (by have := HL1.out; omega) ?_; intro v4 w4 h4)
                go_roundw
                case rel => exact ⟨d + 1, by omega, by go_num, ms_eq h4 (by simp only [MTo, Nat.zero_add]; rw [if_neg hd0, HX.out, List.append_nil])⟩
                case measure => simp [intOf]; omega
            · have hcv := ms_string hms.out
              go_wp2
              go_ret
              exact ⟨ret_str (by rw [HK.out, HLEN.out, show us.length - 0 = d by omega]), hms.out.u.bel⟩
end Go.Proofs.Qxb6000613a
