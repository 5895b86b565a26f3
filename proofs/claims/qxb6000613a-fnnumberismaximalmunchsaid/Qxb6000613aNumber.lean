/-
  jsonScanner.number: the walk: it answers as the number automaton does. By an AI agent. No person has read it.
-/
import Derived.Test.Qxb6000613aScan
namespace Go.Proofs.Qxb6000613a
open Go.RowKit

theorem dgz {p q : Nat} (h : ((q : Int) - (p : Int) == 0) = true) : q = p := by
  rw [beq_iff_eq] at h; omega
theorem dgnz {p q : Nat} (h : ((q : Int) - (p : Int) == 0) = false) : q ≠ p := by
  rw [beq_eq_false_iff_ne] at h; omega

set_option maxHeartbeats 1000000 in
theorem number_any (B : Nat) (s : ByteArray) (p : Nat) (w : World) (h : Sc B s p w) (hs : s.size ≤ 2097152) (hp : p ≤ s.size) :
    Calls Try.prog 30 #[.pointer (some ⟨B, 0, none⟩)] w fun e w' => ∃ (ok : Bool) (q : Nat), e = .returned (.bool ok) ∧ q ≤ s.size ∧ Sc B s q w' ∧ Below B w w' ∧ ok = okB (R s 0 p).1 ∧ (ok = true → (R s 0 p).2 = q) := by
  have hp1 := tkP_le (s := s) (p := p) (c := 45) hp (by decide)
  go_enter Try.func30, Try.ntmps30
  go_upto_region 2 with (go_at_call 32; refine (take_any B s p 45 _ h hs (by decide)).mono ?_; rintro e w1 ⟨rfl, h1, b1⟩)
  go_cut [12] (fun v wc => ∃ (b : Bool) (q : Nat), v = .bool b ∧ q ≤ s.size ∧ Sc B s q wc ∧ Below B w wc ∧ Hid (b = true → okB (R s 0 p).1 = false) ∧ Hid (b = false → Mid2 s p q))
  case first =>
    cases hz : tkB s (tkP s p 45) 48 with
    | true =>
      have HZ : Hid (tkB s (tkP s p 45) 48 = true) := hz
      go_wp2_with (go_at_call 32; refine (take_any B s _ 48 _ h1 hs (by decide)).mono ?_; rintro e w2 ⟨rfl, h2, b2⟩)
      go_meet
      case rel => exact ⟨false, _, rfl, tkP_le hp1 (by decide), h2, b1.trans b2, fun e => (by cases e), fun _ => int_zero HZ.out⟩
    | false =>
      have HZ : Hid (tkB s (tkP s p 45) 48 = false) := hz
      have h48 : tkP s (tkP s p 45) 48 = tkP s p 45 := tkP_no (tkB_false.1 hz)
      go_wp2_with (first | (go_at_call 32; refine (take_any B s _ 48 _ h1 hs (by decide)).mono ?_; rintro e w2 ⟨rfl, h2, b2⟩; rw [h48] at h2) | (go_at_call 33; refine (digits_any B s (tkP s p 45) _ h2 hs hp1).mono ?_; rintro e w3 ⟨q, rfl, hd, hq, h3, b3⟩))
      go_meet
      case rel => exact ⟨_, q, rfl, hq, h3, (b1.trans b2).trans b3, fun e => int_none HZ.out (by have := dgz e; rw [this] at hd; exact hd), fun e => int_dig HZ.out hd (dgnz e)⟩
  case rest =>
    obtain ⟨b, q, rfl, hq, h2, b2, H1, H2⟩ := hcut
    clear h1 b1
    cases b with
    | true =>
      have e1 := H1.out rfl
      clear H1 H2
      have HE : Hid (okB (R s 0 p).1 = false) := e1
      clear e1
      go_wp2
      go_ret
      exact ⟨false, q, rfl, hq, h2, b2, HE.out.symm, fun h => by cases h⟩
    | false =>
      have hm : Hid (Mid2 s p q) := H2.out rfl
      clear H1 H2
      go_upto_region 4 with fail
      go_cut [19] (fun v wc => ∃ (b : Bool) (q : Nat), v = .bool b ∧ q ≤ s.size ∧ Sc B s q wc ∧ Below B w wc ∧ Hid (b = true → okB (R s 0 p).1 = false) ∧ Hid (b = false → Mid3 s p q))
      case first =>
        cases hz : tkB s q 46 with
        | false =>
          have HZ : Hid (tkB s q 46 = false) := hz
          go_wp2_with (go_at_call 32; refine (take_any B s _ 46 _ h2 hs (by decide)).mono ?_; rintro e w2 ⟨rfl, h3, b3⟩)
          go_meet
          case rel => exact ⟨false, _, rfl, tkP_le hq (by decide), h3, b2.trans b3, fun e => (by cases e), fun _ => dot_no hm.out HZ.out⟩
        | true =>
          have HZ : Hid (tkB s q 46 = true) := hz
          have hq1 := tkP_le (s := s) (p := q) (c := 46) hq (by decide)
          go_wp2_with (first | (go_at_call 32; refine (take_any B s _ 46 _ h2 hs (by decide)).mono ?_; rintro e w2 ⟨rfl, h3, b3⟩) | (go_at_call 33; refine (digits_any B s (tkP s q 46) _ h3 hs hq1).mono ?_; rintro e w3 ⟨r, rfl, hd, hr, h4, b4⟩))
          go_meet
          case rel => exact ⟨_, r, rfl, hr, h4, (b2.trans b3).trans b4, fun e => dot_none hm.out HZ.out (by have := dgz e; rw [this] at hd; exact hd), fun e => dot_dig hm.out HZ.out hd (dgnz e)⟩
      case rest =>
        clear hm hq h2 b2
        obtain ⟨b, q, rfl, hq, h2, b2, H1, H2⟩ := hcut
        cases b with
        | true =>
          have HE : Hid (okB (R s 0 p).1 = false) := H1.out rfl
          clear H1 H2
          go_wp2
          go_ret
          exact ⟨false, q, rfl, hq, h2, b2, HE.out.symm, fun h => by cases h⟩
        | false =>
          have hm : Hid (Mid3 s p q) := H2.out rfl
          clear H1 H2
          go_upto_region 6 with fail
          go_cut [25] (fun v wc => ∃ (b : Bool) (q : Nat), v = .bool b ∧ q ≤ s.size ∧ Sc B s q wc ∧ Below B w wc ∧ Hid (b = false → okB (R s 0 p).1 = true ∧ (R s 0 p).2 = q) ∧ Hid (b = true → R s 0 p = R s 6 q))
          case first =>
            cases hz : tkB s q 101 with
            | true =>
              have HZ : Hid (bt s q = 101) := tkB_true.1 hz
              have he : tkP s q 101 = q + 1 := tkP_yes HZ.out
              have hq1 := tkP_le (s := s) (p := q) (c := 101) hq (by decide)
              rw [he] at hq1
              go_wp2_with (go_at_call 32; refine (take_any B s _ 101 _ h2 hs (by decide)).mono ?_; rintro e w2 ⟨rfl, h3, b3⟩; rw [he] at h3)
              go_meet
              case rel => exact ⟨true, q + 1, rfl, hq1, h3, b2.trans b3, fun e => (by cases e), fun _ => exp_yes hm.out (.inl HZ.out)⟩
            | false =>
              have HZ : Hid (bt s q ≠ 101) := tkB_false.1 hz
              have he : tkP s q 101 = q := tkP_no HZ.out
              cases hy : tkB s q 69 with
              | true =>
                have HY : Hid (bt s q = 69) := tkB_true.1 hy
                have he2 : tkP s q 69 = q + 1 := tkP_yes HY.out
                have hq1 := tkP_le (s := s) (p := q) (c := 69) hq (by decide)
                rw [he2] at hq1
                go_wp2_with (first | (go_at_call_of 32 (Value.int .u8 101); refine (take_any B s _ 101 _ h2 hs (by decide)).mono ?_; rintro e w2 ⟨rfl, h3, b3⟩; rw [he] at h3) | (go_at_call_of 32 (Value.int .u8 69); refine (take_any B s q 69 _ h3 hs (by decide)).mono ?_; rintro e w3 ⟨rfl, h4, b4⟩; rw [he2] at h4))
                go_meet
                case rel => exact ⟨true, q + 1, rfl, hq1, h4, (b2.trans b3).trans b4, fun e => (by cases e), fun _ => exp_yes hm.out (.inr HY.out)⟩
              | false =>
                have HY : Hid (bt s q ≠ 69) := tkB_false.1 hy
                have he2 : tkP s q 69 = q := tkP_no HY.out
                go_wp2_with (first | (go_at_call_of 32 (Value.int .u8 101); refine (take_any B s _ 101 _ h2 hs (by decide)).mono ?_; rintro e w2 ⟨rfl, h3, b3⟩; rw [he] at h3) | (go_at_call_of 32 (Value.int .u8 69); refine (take_any B s q 69 _ h3 hs (by decide)).mono ?_; rintro e w3 ⟨rfl, h4, b4⟩; rw [he2] at h4))
                go_meet
                case rel => exact ⟨false, q, rfl, hq, h4, (b2.trans b3).trans b4, fun _ => exp_no hm.out HZ.out HY.out, fun e => (by cases e)⟩
          case rest =>
            clear hm hq h2 b2
            obtain ⟨b, q, rfl, hq, h2, b2, H1, H2⟩ := hcut
            cases b with
            | false =>
              have HE : Hid (okB (R s 0 p).1 = true ∧ (R s 0 p).2 = q) := H1.out rfl
              clear H1 H2
              go_wp2
              go_ret
              exact ⟨true, q, rfl, hq, h2, b2, HE.out.1.symm, fun _ => HE.out.2⟩
            | true =>
              have hm : Hid (R s 0 p = R s 6 q) := H2.out rfl
              clear H1 H2
              cases hz : tkB s q 43 with
              | true =>
                have HM : Hid (Mid5 s p (tkP s q 43)) := sg_plus hm.out hz
                have hq1 := tkP_le (s := s) (p := q) (c := 43) hq (by decide)
                clear hm
                go_wp2_with (first | (go_at_call 32; refine (take_any B s _ 43 _ h2 hs (by decide)).mono ?_; rintro e w2 ⟨rfl, h3, b3⟩) | (go_at_call 33; refine (digits_any B s (tkP s q 43) _ h3 hs hq1).mono ?_; rintro e w5 ⟨r, rfl, hd, hr, h5, b5⟩))
                · go_ret
                  have e : r = tkP s q 43 := dgz ‹_›
                  rw [e] at hd
                  exact ⟨false, r, rfl, hr, h5, (b2.trans b3).trans b5, (ex_none HM.out hd).symm, fun h => by cases h⟩
                · go_ret
                  have e : r ≠ tkP s q 43 := dgnz ‹_›
                  have hx := ex_dig HM.out hd e
                  exact ⟨true, r, rfl, hr, h5, (b2.trans b3).trans b5, hx.1.symm, fun _ => hx.2⟩
              | false =>
                have HM : Hid (Mid5 s p (tkP s (tkP s q 43) 45)) := sg_not hm.out hz
                have he : tkP s q 43 = q := tkP_no (tkB_false.1 hz)
                rw [he] at HM
                have hq1 := tkP_le (s := s) (p := q) (c := 45) hq (by decide)
                clear hm
                go_wp2_with (first | (go_at_call_of 32 (Value.int .u8 43); refine (take_any B s _ 43 _ h2 hs (by decide)).mono ?_; rintro e w2 ⟨rfl, h3, b3⟩; rw [he] at h3) | (go_at_call_of 32 (Value.int .u8 45); refine (take_any B s q 45 _ h3 hs (by decide)).mono ?_; rintro e w3 ⟨rfl, h4, b4⟩) | (go_at_call 33; refine (digits_any B s (tkP s q 45) _ h4 hs hq1).mono ?_; rintro e w5 ⟨r, rfl, hd, hr, h5, b5⟩))
                · go_ret
                  have e : r = tkP s q 45 := dgz ‹_›
                  rw [e] at hd
                  exact ⟨false, r, rfl, hr, h5, ((b2.trans b3).trans b4).trans b5, (ex_none HM.out hd).symm, fun h => by cases h⟩
                · go_ret
                  have e : r ≠ tkP s q 45 := dgnz ‹_›
                  have hx := ex_dig HM.out hd e
                  exact ⟨true, r, rfl, hr, h5, ((b2.trans b3).trans b4).trans b5, hx.1.symm, fun _ => hx.2⟩
end Go.Proofs.Qxb6000613a
