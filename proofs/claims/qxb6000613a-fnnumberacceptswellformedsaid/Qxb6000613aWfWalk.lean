/-
  FnNumberAcceptsWellFormed: the walk of the long way, cut at each 'if'. By an AI agent. No person has read it.
-/
import Derived.Test.Qxb6000613aWfShort
import Derived.Deep.CutBlock
namespace Go.Proofs.Qxb6000613a
open Go.RowKit

set_option maxHeartbeats 8000000 in
set_option maxRecDepth 100000 in
theorem wf_walk (a0 : ByteArray) (a1 a2 : Bool) (a3 a4 : ByteArray) (a5 : Int) (a6 a7 : ByteArray) (w : World) (hs : a0.size + a3.size + a4.size + a6.size + a7.size ≤ 1048576) (h5 : 0 ≤ a5 ∧ a5 ≤ 255) (hsuf : calm (bt a7 0)) :
    Calls Try.prog 7 #[.string a0, .bool a1, .bool a2, .string a3, .string a4, .int .u8 a5, .string a6, .string a7] w fun e w' => e = .returned (.bool true) ∧ Below w.heap.size w w' := by
  have HS : Hid (calm (bt a7 0)) := hsuf
  clear hsuf
  go_enter Try.func7, Try.ntmps7
  go_upto_if 76 with (go_at_call 21; refine (zb21 a0 a1 a2 a3 a4 a5 a6 a7 _ hs).mono ?_; rintro e w' ⟨rfl, rfl⟩)
  go_cut [17] (fun _ wc => w = wc)
  case first => as_aux_lemma =>
    by_cases hz : 0 < a7.size
    · obtain ⟨c1, c2, c3, c4⟩ := HS.out
      have hb := get_bt a7
      have e2 := beqF c2
      have e3 := beqF c3
      have e4 := beqF c4
      have c5 : bt a7 0 < 48 ∨ 57 < bt a7 0 := by unfold isD at c1; omega
      clear c1 c2 c3 c4
      rcases c5 with c5 | c5
      · go_wp2
        go_meet
        case rel => rfl
      · go_wp2
        go_meet
        case rel => rfl
    · go_wp2
      go_meet
      case rel => rfl
  case rest => as_aux_lemma =>
    subst hcut
    go_upto_if 97 with fail
    go_cut [18] (fun v wc => ∃ xs t, Nm w.heap.size v wc xs t ∧ Below w.heap.size w wc ∧ xs.length ≤ 1 ∧ (t = 0 ∨ t = 1))
    case first => as_aux_lemma =>
      have hn := nm_nil w.heap.size w (Nat.le_refl _)
      cases a1 with
      | true =>
        go_wp2_with (at_builtin; refine wpList_nm rfl (.tmp 98) (.tmp 99) rfl [45] 1 _ rfl rfl hn (Below.refl _ _) rfl rfl (by simp) (u := 1) rfl (by simp) ?_; intro v' w1 hn1 hb1)
        go_meet
        case rel => exact ⟨_, 1, hn1, hb1, by simp, .inr rfl⟩
      | false =>
        go_wp2
        go_meet
        case rel => exact ⟨[], 0, hn, Below.refl _ _, by simp, .inl rfl⟩
    case rest => as_aux_lemma =>
      obtain ⟨xs, t, hn, hbl, hlen, ht⟩ := hcut
      go_upto_region 14 with fail
      go_cut [106] (fun v wd => ∃ b : Bool, v = .bool b ∧ wc = wd ∧ (b = false → 0 < a3.size))
      case first => as_aux_lemma =>
        cases a2 with
        | true =>
          go_wp2
          go_meet
          case rel => exact ⟨true, rfl, rfl, fun h => by cases h⟩
        | false =>
          go_wp2
          go_meet
          case rel => exact ⟨_, rfl, rfl, fun h => by rw [beq_eq_false_iff_ne] at h; omega⟩
      case rest => as_aux_lemma =>
        obtain ⟨b, rfl, rfl, hz⟩ := hcut
        go_upto_if 106 with fail
        go_cut [18] (fun v wd => ∃ xs t, Nm w.heap.size v wd xs t ∧ Below w.heap.size w wd ∧ xs.length ≤ a3.size + 2 ∧ (t = 2 ∨ t = 3))
        case first => as_aux_lemma =>
          cases b with
          | true =>
            go_wp2_with (at_builtin; (refine wpList_nm rfl (.tmp 107) (.tmp 108) rfl [48] 1 _ rfl rfl hn hbl rfl rfl (by simp) (u := 2) (by rcases ht with rfl | rfl <;> rfl) (by omega) ?_); intro v' w1 hn1 hb1)
            go_meet
            case rel => exact ⟨_, 2, hn1, hb1, by simp; omega, .inl rfl⟩
          | false =>
            have hz' := hz rfl
            clear hz
            have hb := get_bt a3
            have h0 := bt_bd a3 0
            have hc : Hid (49 ≤ 49 + bt a3 0 % 9 ∧ 49 + bt a3 0 % 9 ≤ 57) := (show _ ∧ _ by omega)
            go_wp2_with (at_builtin; (refine wpList_nm rfl (.tmp 110) (.tmp 115) rfl [49 + bt a3 0 % 9] 1 _ rfl rfl hn hbl rfl rfl (rng_one (by have := hc.out; omega)) (run_first ht hc.out) (by omega) ?_); intro v' w1 hn1 hb1)
            go_loopw [18, 19] (fun v i wr => ∃ (k : Nat) (ys : List Int), 1 ≤ k ∧ k ≤ a3.size ∧ i = .int .i64 k ∧ Nm w.heap.size v wr ys 3 ∧ Below w.heap.size w wr ∧ ys.length ≤ k + 1) (fun _ i _ => a3.size - (intOf i).toNat)
            case atStart => exact ⟨1, _, by omega, by omega, rfl, hn1, hb1, by simp; omega⟩
            case round =>
              obtain ⟨k, ys, hk1, hk, rfl, hn2, hb2, hl2⟩ := hrel
              have hbk := bt_bd a3 k
              by_cases hlt : k < a3.size
              · have hd : Hid (48 ≤ 48 + bt a3 k % 10 ∧ 48 + bt a3 k % 10 ≤ 57) := (show _ ∧ _ by omega)
                go_wp2_with (at_builtin; (refine wpList_nm rfl (.tmp 123) (.tmp 129) rfl [48 + bt a3 k % 10] 1 _ rfl rfl hn2 hb2 rfl rfl (rng_one (by have := hd.out; omega)) (run_d3 hd.out) (by omega) ?_); intro v3 w3 hn3 hb3)
                go_roundw
                case rel => exact ⟨k + 1, _, by omega, by omega, by go_num, hn3, hb3, by simp; omega⟩
                case measure => simp [intOf]; omega
              · go_wp2
                go_meet
                case rel => exact ⟨ys, 3, hn2, hb2, by omega, .inr rfl⟩
        case rest => as_aux_lemma =>
          clear hn hbl hlen ht hz
          obtain ⟨xs, t, hn, hbl, hlen, ht⟩ := hcut
          go_upto_if 133 with fail
          go_cut [18] (fun v wd => ∃ xs t, Nm w.heap.size v wd xs t ∧ Below w.heap.size w wd ∧ xs.length ≤ a3.size + a4.size + 3 ∧ (t = 2 ∨ t = 3 ∨ t = 5))
          case first => as_aux_lemma =>
            by_cases hz : 0 < a4.size
            · have hb := get_bt a4
              go_wp2_with (at_builtin; (refine wpList_nm rfl (.tmp 134) (.tmp 135) rfl [46] 1 _ rfl rfl hn hbl rfl rfl (by simp) (run_dot ht) (by omega) ?_); intro v' w1 hn1 hb1)
              go_loopw [18, 20] (fun v i wr => ∃ (k : Nat) (ys : List Int) (t : Int), k ≤ a4.size ∧ i = .int .i64 k ∧ Nm w.heap.size v wr ys t ∧ Below w.heap.size w wr ∧ ys.length ≤ a3.size + k + 3 ∧ (t = 4 ∧ k = 0 ∨ t = 5)) (fun _ i _ => a4.size - (intOf i).toNat)
              case atStart => exact ⟨0, _, 4, by omega, rfl, hn1, hb1, by simp; omega, .inl ⟨rfl, rfl⟩⟩
              case round =>
                obtain ⟨k, ys, t2, hk, rfl, hn2, hb2, hl2, ht2⟩ := hrel
                have hbk := bt_bd a4 k
                by_cases hlt : k < a4.size
                · have hd : Hid (48 ≤ 48 + bt a4 k % 10 ∧ 48 + bt a4 k % 10 ≤ 57) := (show _ ∧ _ by omega)
                  have ht3 : Hid (t2 = 4 ∨ t2 = 5) := (show _ ∨ _ by omega)
                  clear ht2
                  go_wp2_with (at_builtin; (refine wpList_nm rfl (.tmp 143) (.tmp 149) rfl [48 + bt a4 k % 10] 1 _ rfl rfl hn2 hb2 rfl rfl (rng_one (by have := hd.out; omega)) (run_d4 ht3.out hd.out) (by omega) ?_); intro v3 w3 hn3 hb3)
                  go_roundw
                  case rel => exact ⟨k + 1, _, 5, by omega, by go_num, hn3, hb3, by simp; omega, .inr rfl⟩
                  case measure => simp [intOf]; omega
                · have ht3 : t2 = 5 := by omega
                  subst ht3
                  clear ht2
                  go_wp2
                  go_meet
                  case rel => exact ⟨ys, 5, hn2, hb2, by omega, .inr (.inr rfl)⟩
            · go_wp2
              go_meet
              case rel => exact ⟨xs, t, hn, hbl, by omega, by omega⟩
          case rest => as_aux_lemma =>
            clear hn hbl hlen ht
            obtain ⟨xs, t, hn, hbl, hlen, ht⟩ := hcut
            obtain ⟨K, hK0, hK6, eK⟩ : ∃ K : Int, 0 ≤ K ∧ K ≤ 6 ∧ a5 % 7 = K := ⟨_, by omega, by omega, rfl⟩
            go_upto_if 154 with fail
            go_cut [18, 21, 154] (fun v _ _ wd => ∃ xs t, Nm w.heap.size v wd xs t ∧ Below w.heap.size w wd ∧ xs.length ≤ a3.size + a4.size + a6.size + 6 ∧ (t = 2 ∨ t = 3 ∨ t = 5 ∨ t = 8))
            case first => as_aux_lemma =>
              by_cases hK : K = 0
              · subst hK
                go_wp2
                go_meet
                case rel => exact ⟨xs, t, hn, hbl, by omega, by omega⟩
              · have eK0 : (K != 0) = true := by rw [bne_iff_ne]; exact hK
                go_upto_block 4 with fail
                go_cut [18, 21, 155] (fun v _ _ wd => ∃ xs t, Nm w.heap.size v wd xs t ∧ Below w.heap.size w wd ∧ xs.length ≤ a3.size + a4.size + 5 ∧ (t = 6 ∨ t = 7))
                case first => as_aux_lemma =>
                  clear eK0
                  rcases (show K = 1 ∨ K = 2 ∨ K = 3 ∨ K = 4 ∨ K = 5 ∨ K = 6 by omega) with rfl | rfl | rfl | rfl | rfl | rfl
                  · go_wp2_with (at_builtin; refine wpList_nm rfl (.tmp 161) (.tmp 162) rfl [101] 1 _ rfl rfl hn hbl rfl rfl (by simp) (u := 6) (by rcases ht with rfl | rfl | rfl <;> rfl) (by omega) ?_; intro v' w1 hn1 hb1)
                    go_meet
                    case rel => exact ⟨_, 6, hn1, hb1, by simp; omega, by omega⟩
                  · go_wp2_with (at_builtin; refine wpList_nm rfl (.tmp 166) (.tmp 167) rfl [69] 1 _ rfl rfl hn hbl rfl rfl (by simp) (u := 6) (by rcases ht with rfl | rfl | rfl <;> rfl) (by omega) ?_; intro v' w1 hn1 hb1)
                    go_meet
                    case rel => exact ⟨_, 6, hn1, hb1, by simp; omega, by omega⟩
                  · go_wp2_with (at_builtin; refine wpList_nm rfl (.tmp 171) (.tmp 172) rfl [101, 43] 2 _ rfl rfl hn hbl rfl rfl (by simp) (u := 7) (by rcases ht with rfl | rfl | rfl <;> rfl) (by omega) ?_; intro v' w1 hn1 hb1)
                    go_meet
                    case rel => exact ⟨_, 7, hn1, hb1, by simp; omega, by omega⟩
                  · go_wp2_with (at_builtin; refine wpList_nm rfl (.tmp 176) (.tmp 177) rfl [69, 43] 2 _ rfl rfl hn hbl rfl rfl (by simp) (u := 7) (by rcases ht with rfl | rfl | rfl <;> rfl) (by omega) ?_; intro v' w1 hn1 hb1)
                    go_meet
                    case rel => exact ⟨_, 7, hn1, hb1, by simp; omega, by omega⟩
                  · go_wp2_with (at_builtin; refine wpList_nm rfl (.tmp 181) (.tmp 182) rfl [101, 45] 2 _ rfl rfl hn hbl rfl rfl (by simp) (u := 7) (by rcases ht with rfl | rfl | rfl <;> rfl) (by omega) ?_; intro v' w1 hn1 hb1)
                    go_meet
                    case rel => exact ⟨_, 7, hn1, hb1, by simp; omega, by omega⟩
                  · go_wp2_with (at_builtin; refine wpList_nm rfl (.tmp 156) (.tmp 157) rfl [69, 45] 2 _ rfl rfl hn hbl rfl rfl (by simp) (u := 7) (by rcases ht with rfl | rfl | rfl <;> rfl) (by omega) ?_; intro v' w1 hn1 hb1)
                    go_meet
                    case rel => exact ⟨_, 7, hn1, hb1, by simp; omega, by omega⟩
                case rest => as_aux_lemma =>
                  clear hn hbl hlen ht
                  obtain ⟨xs, t, hn, hbl, hlen, ht⟩ := hcut
                  go_upto_if 186 with fail
                  go_cut [18, 186] (fun v _ wd => ∃ xs t, Nm w.heap.size v wd xs t ∧ Below w.heap.size w wd ∧ xs.length ≤ a3.size + a4.size + 6 ∧ (t = 6 ∨ t = 7 ∨ t = 8) ∧ (a6.size = 0 → t = 8))
                  case first => as_aux_lemma =>
                    by_cases hz0 : a6.size = 0
                    · have ez : ((a6.size : Int) == 0) = true := by simp [hz0]
                      have hz : Hid (a6.size = 0) := hz0
                      clear hz0
                      go_wp2_with (at_builtin; refine wpList_nm rfl (.tmp 187) (.tmp 188) rfl [48] 1 _ rfl rfl hn hbl rfl rfl (by simp) (u := 8) (by rcases ht with rfl | rfl <;> rfl) (by omega) ?_; intro v' w1 hn1 hb1)
                      go_meet
                      case rel => exact ⟨_, 8, hn1, hb1, by simp; omega, by omega, fun _ => rfl⟩
                    · have ez : ((a6.size : Int) == 0) = false := by simp [hz0]
                      have hz : Hid (¬ a6.size = 0) := hz0
                      clear hz0
                      go_wp2
                      go_meet
                      case rel => exact ⟨xs, t, hn, hbl, by omega, by omega, fun h => absurd h hz.out⟩
                  case rest => as_aux_lemma =>
                    clear hn hbl hlen ht
                    obtain ⟨xs, t, hn, hbl, hlen, ht, htz⟩ := hcut
                    have hb := get_bt a6
                    go_wp2_with fail
                    go_loopw [18, 22] (fun v i wr => ∃ (k : Nat) (ys : List Int) (t : Int), k ≤ a6.size ∧ i = .int .i64 k ∧ Nm w.heap.size v wr ys t ∧ Below w.heap.size w wr ∧ ys.length ≤ a3.size + a4.size + k + 6 ∧ (t = 6 ∨ t = 7 ∨ t = 8) ∧ (k = a6.size → t = 8)) (fun _ i _ => a6.size - (intOf i).toNat)
                    case atStart => exact ⟨0, _, t, by omega, rfl, hn, hbl, by omega, ht, fun h => htz h.symm⟩
                    case round =>
                      obtain ⟨k, ys, t2, hk, rfl, hn2, hb2, hl2, ht2, ht3⟩ := hrel
                      have hbk := bt_bd a6 k
                      by_cases hlt : k < a6.size
                      · have hd : Hid (48 ≤ 48 + bt a6 k % 10 ∧ 48 + bt a6 k % 10 ≤ 57) := (show _ ∧ _ by omega)
                        have ht4 : Hid (t2 = 6 ∨ t2 = 7 ∨ t2 = 8) := ht2
                        clear ht2 ht3 htz
                        go_wp2_with (at_builtin; refine wpList_nm rfl (.tmp 196) (.tmp 202) rfl [48 + bt a6 k % 10] 1 _ rfl rfl hn2 hb2 rfl rfl (rng_one (by have := hd.out; omega)) (run_d6 ht4.out hd.out) (by omega) ?_; intro v3 w3 hn3 hb3)
                        go_roundw
                        case rel => first | exact ⟨k + 1, _, 8, by omega, by go_num, hn3, hb3, by simp; omega, by omega, fun _ => rfl⟩ | ((repeat apply Exists.intro); exact ⟨⟨k + 1, _, 8, by omega, by go_num, hn3, hb3, by simp; omega, by omega, fun _ => rfl⟩, rfl⟩)
                        case measure => simp [intOf]; omega
                      · have ht5 : t2 = 8 := ht3 (by omega)
                        subst ht5
                        clear ht2 ht3 htz
                        go_wp2
                        go_meet
                        case rel => exact ⟨ys, 8, hn2, hb2, by omega, by omega⟩
            case rest => as_aux_lemma =>
              clear hn hbl hlen ht
              obtain ⟨xs, t, hn, hbl, hlen, ht⟩ := hcut
              obtain ⟨g, cp, hv, hcell⟩ := nm_view hn (by omega)
              have hcv := run_convert_bytes_arg (P := Try.prog) wc 26 5 Try.underlying26 Try.underlying5 g 0 xs.length cp xs rfl hcell 9 Try.underlying9
              have hsz := strOfNums_size xs
              have hpl := wf_plain a0 a7 xs t hn.rng hn.run ht HS.out
              have HP : Hid (R (a0 ++ strOfNums xs ++ a7) 0 a0.size = (t, a0.size + xs.length)) := hpl
              have HO : Hid (okB t = true) := (show _ = _ by unfold okB; simp only [decide_eq_true_eq]; omega)
              have hdl : (a0 ++ strOfNums xs ++ a7).size ≤ 2097152 := by rw [ByteArray.size_append, ByteArray.size_append, hsz]; omega
              have hdp : a0.size ≤ (a0 ++ strOfNums xs ++ a7).size := by rw [ByteArray.size_append, ByteArray.size_append]; omega
              clear hpl hcell hn ht
              rw [hv]
              go_wp2_with (go_at_call 18; refine (zznumber_any _ a0.size _ hdl hdp).mono ?_; rintro e w5 ⟨ok, q, rfl, hq, b5, X1, X2⟩; obtain rfl : ok = true := (by rw [X1.out, HP.out]; exact HO.out); obtain rfl : q = a0.size + xs.length := (by have := X2.out rfl; rw [HP.out] at this; exact this.symm))
              go_ret
              exact ⟨rfl, hbl.trans (b5.mono hbl.size)⟩
end Go.Proofs.Qxb6000613a
