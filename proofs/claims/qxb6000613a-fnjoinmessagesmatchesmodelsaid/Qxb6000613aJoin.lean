/-
  joinMessages: the walk. By an AI agent. No person has read it.
-/
import Derived.Test.Qxb6000613aBuilder
import Derived.Test.Qxb6000613aJoinPlain
import Derived.Maps.OwnOps
import Derived.Deep.LoopGhost
import Derived.Deep.DeepCutAuto
import Derived.Deep.RegionWith
namespace Go.Proofs.Qxb6000613a
open Go.RowKit Go.Maps

theorem law9 : Keyed Try.prog 9 := string_keyed Try.underlying9
theorem zero4 (w : World) : (zeroValue 4).run Try.prog w = .ok (.bool false) w := by kernel_rfl
theorem run_makeMap_hint (n : Int) (w : World) : (Instr.makeMap 49 (some (.int .i64 n))).run Try.prog w = .ok (.map (some w.heap.size)) (w.alloc (.map #[] 0)) := by kernel_rfl

theorem plainElem_bool_inv {v : Value} {z : DataW Unit × List MemPlace} (h : plainElem Try.prog 4 v = some z) : ∃ b, v = .bool b ∧ z = (.lit (.bool b), []) := by
  unfold plainElem at h
  rw [Try.underlying4] at h
  cases v with
  | bool b => simp at h; exact ⟨b, rfl, h.symm⟩
  | _ => simp at h

theorem lookup_bool (w : World) {ops : Array Oper} {rest : List Oper} {o : Oper} {a : Act} {Q : Exit → Act → World → Prop}
    (hg : o.guard = none) (m x : Operand) (hop : o.op = Op.lookup 49 m x false)
    (b n : Nat) (u : List (List UInt8)) (hm : a.eval m = .map (some b)) (hown : w.ownsMap Try.prog 9 (plainElem Try.prog 4) b n (seenD u)) (s : ByteArray) (hx : a.eval x = .string s) (hs : s.size ≤ maxLen)
    (c : Bool) (hc : c = decide (s.data.toList ∈ u)) (hK : wpList Try.prog ops Q rest (a.put o.dst (.bool c)) w) :
    wpList Try.prog ops Q (o :: rest) a w := by
  refine wpList_plain hg fun K' hK' => ?_
  obtain ⟨v, ps, hrun, hv⟩ := hown.lookup law9 Try.underlying49 (zero4 w) (plainElem_bool Try.underlying4 false) (Go.WideMaps.keyOf_string_mk Try.underlying9 hs)
  obtain ⟨b', rfl, hb⟩ := plainElem_bool_inv hv
  rw [seenD_at] at hb
  have hb2 : b' = c := by
    rw [hc]
    have := congrArg Prod.fst hb
    simp only [DataW.lit.injEq, Lit.bool.injEq] at this
    exact this.symm
  subst hb2
  unfold Oper.wp
  simp [execOp, hop, hm, hx, hrun, Result.andThen]
  exact hK' _ _ hK

/-- A builder stays one while a block below it turns. -/
theorem at_kept {B b M : Nat} {p : Value} {bs : List Value} {w w' : World} (h : Lib.BuilderAt 52 5 B b p bs w) (hg : w.grownBy w' (some M)) (hM : M < B) : Lib.BuilderAt 52 5 B b p bs w' := by
  have hlt := h.lt
  obtain ⟨hB, v, hb, hown, hne⟩ := h
  refine ⟨hB, v, ?_, hown.kept hg ?_, hne⟩
  · rw [hg.block b hlt (fun e => by injection e with e; omega)]; exact hb
  · cases hv : v.ownBlock with
    | none => exact .inl rfl
    | some k =>
      right
      intro e
      injection e with e
      have := (hown.lt k hv).1
      omega
theorem builder_kept {B b M : Nat} {bs : List Value} {w w' : World} (h : Lib.IsBuilder 52 5 B b bs w) (hg : w.grownBy w' (some M)) (hM : M < B) : Lib.IsBuilder 52 5 B b bs w' := by
  rcases h with h | h
  · exact .inl (at_kept h hg hM)
  · exact .inr (at_kept h hg hM)
/-- The map below a builder stays while the builder is written. -/
theorem map_kept {M n B : Nat} {D : DataW Unit} {w w' : World} (h : w.ownsMap Try.prog 9 (plainElem Try.prog 4) M n D) (hb : Below B w w') (hM : M < B) : w'.ownsMap Try.prog 9 (plainElem Try.prog 4) M n D := by
  obtain ⟨es, clock, hm, F, hs, e⟩ := h
  exact ⟨es, clock, by rw [hb.block M hM]; exact hm, F, hs, e⟩
/-- What the loop of joinMessages keeps: the set, the builder, all that was there. -/
structure JS (w : World) (u : List (List UInt8)) (k : Nat) (acc : List UInt8) (wr : World) : Prop where
  map : wr.ownsMap Try.prog 9 (plainElem Try.prog 4) w.heap.size k (seenD u)
  bld : Lib.IsBuilder 52 5 (w.heap.size + 1) (w.heap.size + 1) (Lib.byteCells acc) wr
  bel : Below w.heap.size w wr
theorem JS.lt {w : World} {u : List (List UInt8)} {k : Nat} {acc : List UInt8} {wr : World} (h : JS w u k acc wr) : w.heap.size + 1 < wr.heap.size := by
  rcases h.bld with h | h <;> exact h.lt
theorem js_start (w : World) : JS w [] 0 [] ((w.alloc (.map #[] 0)).alloc (.cells #[.pointer none, .slice none 0 0] 52)) := by
  refine ⟨?_, ?_, ?_⟩
  · exact (World.ownsMap_made w Try.prog 9 _).alloc _
  · have := Lib.fresh_isBuilder 52 5 (w.alloc (.map #[] 0))
    rw [show (w.alloc (.map #[] 0)).heap.size = w.heap.size + 1 by simp] at this
    exact this
  · exact ((Below.refl _ _).alloc (Nat.le_refl _) _).alloc (by simp) _
theorem js_put {w : World} {u : List (List UInt8)} {k : Nat} {acc m : List UInt8} {wr w1 : World} (h : JS w u k acc wr) (hown : w1.ownsMap Try.prog 9 (plainElem Try.prog 4) w.heap.size (k + 1) ((seenD u).put (.string m) (.lit (.bool true)))) (hg : wr.grownBy w1 (some w.heap.size)) : JS w (u ++ [m]) (k + 1) acc w1 :=
  ⟨by rw [seenD_snoc]; exact hown, builder_kept h.bld hg (by omega), h.bel.grown hg (by have := h.lt; omega) (fun j hj => by cases hj; exact Nat.le_refl _)⟩
theorem js_write {w : World} {u : List (List UInt8)} {k : Nat} {acc : List UInt8} {s : ByteArray} {wr w1 : World} (h : JS w u k acc wr) (hb : Lib.IsBuilder 52 5 (w.heap.size + 1) (w.heap.size + 1) (Lib.byteCells acc ++ Lib.strCells s) w1) (hbl : Below (w.heap.size + 1) wr w1) : JS w u k (acc ++ s.data.toList) w1 :=
  ⟨map_kept h.map hbl (by omega), by rw [Lib.byteCells_append, ← Lib.strCells_eq]; exact hb, h.bel.trans (hbl.mono (by omega))⟩
theorem js_mono {w : World} {u : List (List UInt8)} {k : Nat} {acc : List UInt8} {wr : World} (h : JS w u k acc wr) : JS w u (k + 1) acc wr := ⟨h.map.mono (Nat.le_succ _), h.bld, h.bel⟩
theorem js_seen {w : World} {u u' : List (List UInt8)} {k : Nat} {acc acc' : List UInt8} {wr : World} (h : JS w u k acc wr) (e1 : u = u') (e2 : acc = acc') : JS w u' k acc' wr := by subst e1; subst e2; exact h

set_option maxHeartbeats 2000000 in
theorem join_walk (g off n cap : Nat) (ss : List ByteArray) (ms : List (List UInt8)) (w : World) (hn : n ≤ 4096) (hl : ms.length = n)
    (hms : ∀ i, i < n → ms.getD i [] = (ss.getD i ByteArray.empty).data.toList)
    (hc : ∀ i, i < n → w.cell? ⟨g, off + i, none⟩ = some (.string (ss.getD i ByteArray.empty))) (hg : g < w.heap.size) (ht : totTo ms n ≤ 1048576) :
    Calls Try.prog 31 #[.slice (some ⟨g, off, none⟩) n cap] w fun e w' => e = .returned (.string ⟨(J (ddTo ms n)).toArray⟩) ∧ Below w.heap.size w w' := by
  have hmm := run_makeMap_hint
  have HC : Hid (∀ i, i < n → w.cell? ⟨g, off + i, none⟩ = some (.string (ss.getD i ByteArray.empty))) := hc
  have HM : Hid (∀ i, i < n → ms.getD i [] = (ss.getD i ByteArray.empty).data.toList) := hms
  clear hc hms
  go_enter Try.func31, Try.ntmps31
  go_wp2
  go_loopw [12] (fun i wr => ∃ k : Nat, k ≤ n ∧ i = .int .i64 k ∧ Hid (JS w (ddTo ms k) k (J (ddTo ms k)) wr)) (fun i _ => n - (intOf i).toNat)
  case atStart => exact ⟨0, Nat.zero_le _, rfl, js_start w⟩
  case round =>
    obtain ⟨k, hk, rfl, hjs⟩ := hrel
    by_cases hlt : k < n
    · obtain ⟨s, hs⟩ : ∃ s, s = ss.getD k ByteArray.empty := ⟨_, rfl⟩
      have hcell : wr.cell? ⟨g, off + k, none⟩ = some (.string s) := by rw [hs]; exact (hjs.out.bel.cell (by exact hg)).trans (HC.out k hlt)
      have hmk : Hid (ms.getD k [] = s.data.toList) := (show _ = _ by rw [hs]; exact HM.out k hlt)
      have hsz : s.size ≤ 1048576 := by
        have h1 := totTo_mono ms (show k + 1 ≤ n by omega)
        simp only [totTo] at h1
        have h2 : s.size = (ms.getD k []).length := by rw [hmk.out, Array.length_toList]; rfl
        omega
      have hsm : s.size ≤ maxLen := by unfold maxLen; omega
      have HT : Hid ((J (ddTo ms k)).length ≤ 1048576) := (show _ ≤ _ by have h1 := J_length ms k (by omega); have h2 := totTo_mono ms (show k ≤ n by omega); omega)
      clear hs
      by_cases hin : s.data.toList ∈ ddTo ms k
      · have HD : Hid (ddTo ms k = ddTo ms (k + 1)) := (show _ = _ by rw [ddTo_succ ms k (by omega), hmk.out, ad_in hin])
        have hcd : Hid (true = decide (s.data.toList ∈ ddTo ms k)) := (decide_eq_true hin).symm
        clear hin
        go_wp2_with (at_lookup; refine lookup_bool _ rfl _ _ rfl w.heap.size k _ rfl hjs.out.map s rfl hsm true hcd.out ?_)
        go_roundw
        case rel => exact ⟨k + 1, by omega, by go_num, js_seen (js_mono hjs.out) HD.out (by rw [HD.out])⟩
        case measure => simp [intOf]; omega
      · have HU : Hid (ddTo ms (k + 1) = ddTo ms k ++ [s.data.toList]) := (show _ = _ by rw [ddTo_succ ms k (by omega), hmk.out, ad_out hin])
        have HJ : Hid (J (ddTo ms (k + 1)) = jw (J (ddTo ms k)) s.data.toList) := (show _ = _ by rw [HU.out, J_snoc])
        have hcd : Hid (false = decide (s.data.toList ∈ ddTo ms k)) := (decide_eq_false hin).symm
        clear hin
        have hbl : (Lib.byteCells (J (ddTo ms k))).length ≤ 1048576 := by rw [Lib.byteCells_length]; exact HT.out
        by_cases he : J (ddTo ms k) = []
        · have HE : Hid (J (ddTo ms (k + 1)) = J (ddTo ms k) ++ s.data.toList) := (show _ = _ by rw [HJ.out]; unfold jw; rw [if_pos he]; simp)
          have hL : (Lib.byteCells (J (ddTo ms k))).length = 0 := by rw [Lib.byteCells_length, he]; rfl
          clear he
          go_wp2_with (first | (at_lookup; refine lookup_bool _ rfl _ _ rfl w.heap.size k _ rfl hjs.out.map s rfl hsm false hcd.out ?_) | (at_mapUpdate; refine wpList_mapUpdate_own _ rfl _ _ _ 49 rfl 9 4 law9 Try.underlying49 _ w.heap.size k _ rfl hjs.out.map (by unfold maxLen; omega) _ _ _ rfl rfl (WideMaps.keyOf_string_mk (P := Try.prog) (k := 9) Try.underlying9 hsm) _ [] (plainElem_bool Try.underlying4 true) ?_; intro w1 hown1 hgrow1; have j1 := js_put hjs.out hown1 hgrow1; clear hown1 hgrow1) | (go_at_call 34; refine (Try.Builder_Len _ _ _ _ j1.bld).mono ?_; rintro e w2 ⟨rfl, rfl⟩) | (go_at_call 35; refine (writeString_any _ _ _ s _ j1.bld (by omega) (by have := j1.lt; omega)).mono ?_; rintro e w3 ⟨rfl, hb3, hbl3⟩; have j3 := js_write j1 hb3 hbl3; clear j1 hb3 hbl3))
          go_roundw
          case rel => exact ⟨k + 1, by omega, by go_num, js_seen j3 HU.out.symm HE.out.symm⟩
          case measure => simp [intOf]; omega
        · have HE : Hid (J (ddTo ms (k + 1)) = J (ddTo ms k) ++ [59, 32] ++ s.data.toList) := (show _ = _ by rw [HJ.out]; unfold jw; rw [if_neg he])
          have hL : 0 < (Lib.byteCells (J (ddTo ms k))).length := by rw [Lib.byteCells_length]; exact List.length_pos_iff.2 he
          have hbl2 : Hid ((Lib.byteCells (J (ddTo ms k) ++ [59, 32])).length ≤ 1048578) := (show _ ≤ _ by rw [Lib.byteCells_length, List.length_append] ; have := HT.out; simp; omega)
          clear he
          go_wp2_with (first | (at_lookup; refine lookup_bool _ rfl _ _ rfl w.heap.size k _ rfl hjs.out.map s rfl hsm false hcd.out ?_) | (at_mapUpdate; refine wpList_mapUpdate_own _ rfl _ _ _ 49 rfl 9 4 law9 Try.underlying49 _ w.heap.size k _ rfl hjs.out.map (by unfold maxLen; omega) _ _ _ rfl rfl (WideMaps.keyOf_string_mk (P := Try.prog) (k := 9) Try.underlying9 hsm) _ [] (plainElem_bool Try.underlying4 true) ?_; intro w1 hown1 hgrow1; have j1 := js_put hjs.out hown1 hgrow1; clear hown1 hgrow1) | (go_at_call 34; refine (Try.Builder_Len _ _ _ _ j1.bld).mono ?_; rintro e w2 ⟨rfl, rfl⟩) | (go_at_call_of 35 (Value.string ⟨#[59, 32]⟩); refine (writeString_any _ _ _ ⟨#[59, 32]⟩ _ j1.bld (by have : (⟨#[59, 32]⟩ : ByteArray).size = 2 := rfl; omega) (by have := j1.lt; omega)).mono ?_; rintro e w3 ⟨rfl, hb3, hbl3⟩; have j3 := js_write j1 hb3 hbl3; clear j1 hb3 hbl3) | (go_at_call_of 35 (Value.string s); refine (writeString_any _ _ _ s _ j3.bld (by have := hbl2.out; omega) (by have := j3.lt; omega)).mono ?_; rintro e w4 ⟨rfl, hb4, hbl4⟩; have j4 := js_write j3 hb4 hbl4; clear j3 hb4 hbl4))
          go_roundw
          case rel => exact ⟨k + 1, by omega, by go_num, js_seen j4 HU.out.symm HE.out.symm⟩
          case measure => simp [intOf]; omega
    · have e : k = n := by omega
      subst e
      go_wp2_with (go_at_call 36; refine (Try.Builder_String_any (w.heap.size + 1) (w.heap.size + 1) _ _ hjs.out.bld (by have := hjs.out.lt; omega)).mono ?_; rintro e w2 ⟨rfl, hb2⟩)
      go_ret
      exact ⟨rfl, hjs.out.bel.trans (hb2.mono (by omega))⟩

theorem join_empty (ao : Option Addr) (cap : Nat) (w : World) :
    Calls Try.prog 31 #[.slice ao 0 cap] w fun e w' => e = .returned (.string ⟨#[]⟩) ∧ Below w.heap.size w w' := by
  have hmm := run_makeMap_hint
  have hjs : Hid (JS w [] 0 [] ((w.alloc (.map #[] 0)).alloc (.cells #[.pointer none, .slice none 0 0] 52))) := js_start w
  go_enter Try.func31, Try.ntmps31
  go_wp2
  refine wp_loop_rounds 1 ?_
  rw [rounds_succ]
  go_wp2_with (go_at_call 36; refine (Try.Builder_String_any (w.heap.size + 1) (w.heap.size + 1) [] _ hjs.out.bld (by have := hjs.out.lt; omega)).mono ?_; rintro e w2 ⟨rfl, hb2⟩)
  go_ret
  exact ⟨rfl, hjs.out.bel.trans (hb2.mono (by omega))⟩

theorem zzjoin_walk (g off n cap : Nat) (ss : List ByteArray) (ms : List (List UInt8)) (w : World) (hn : n ≤ 4096) (hl : ms.length = n)
    (hms : ∀ i, i < n → ms.getD i [] = (ss.getD i ByteArray.empty).data.toList)
    (hc : ∀ i, i < n → w.cell? ⟨g, off + i, none⟩ = some (.string (ss.getD i ByteArray.empty))) (hg : g < w.heap.size) (ht : totTo ms n ≤ 1048576) :
    Calls Try.prog 26 #[.slice (some ⟨g, off, none⟩) n cap] w fun e w' => e = .returned (.string ⟨(J (ddTo ms n)).toArray⟩) ∧ Below w.heap.size w w' := by
  have H : Hid (Calls Try.prog 31 #[.slice (some ⟨g, off, none⟩) n cap] w fun e w' => e = .returned (.string ⟨(J (ddTo ms n)).toArray⟩) ∧ Below w.heap.size w w') := join_walk g off n cap ss ms w hn hl hms hc hg ht
  clear hms hc
  go_enter Try.func26, Try.ntmps26
  go_wp2_with (go_at_call 31; refine H.out.mono ?_; rintro e w2 ⟨rfl, hb2⟩)
  go_ret
  exact ⟨rfl, hb2⟩
theorem zzjoin_empty (ao : Option Addr) (cap : Nat) (w : World) :
    Calls Try.prog 26 #[.slice ao 0 cap] w fun e w' => e = .returned (.string ⟨#[]⟩) ∧ Below w.heap.size w w' := by
  go_enter Try.func26, Try.ntmps26
  go_wp2_with (go_at_call 31; refine (join_empty ao cap _).mono ?_; rintro e w2 ⟨rfl, hb2⟩)
  go_ret
  exact ⟨rfl, hb2⟩
end Go.Proofs.Qxb6000613a
