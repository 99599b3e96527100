import Derived.Test.Qxb6602928aNumDigits
import Derived.Deep.DeepCutAuto
import Derived.Deep.CutBlock
namespace Go.Proofs.Qxb6602928a.Num
open Go.ChangeShapes Go.WideShapes Go.ChangeAt Go.RowKit
open Clone Decoder

theorem St.next {w0 w : World} {D g cap p : Nat} {ad : Option Addr} {d : Int} {zs : List Int} (h : St w0 D g cap ad d zs w p) :
    St w0 D g cap ad d zs (w.setCell ⟨D, 1, none⟩ (.int .i64 ((p : Int) + 1))) (p + 1) := by
  have := h.moved (p + 1)
  simpa using this

theorem dg_lt {zs : List Int} {p : Nat} (h : p < dg zs p) : p < zs.length := by
  by_cases k : p < zs.length
  · exact k
  · exfalso
    unfold dg at h
    rw [List.drop_eq_nil_of_le (by omega)] at h
    simp [dl] at h

theorem int_digit (zs : List Int) (q : Nat) (h : atB zs q 48 = false) (hl : q < zs.length) (h1 : 49 ≤ nth zs q) (h2 : nth zs q ≤ 57) : intP zs q = fracP zs (dg zs q) ∧ q < dg zs q := by
  refine ⟨?_, (first_digit zs q hl).2 (by simp only [dgt, Bool.and_eq_true, decide_eq_true_eq]; omega)⟩
  unfold intP; rw [if_neg (by rw [h]; decide), if_pos ⟨hl, h1, h2⟩]
theorem int_bad (zs : List Int) (q : Nat) (h : atB zs q 48 = false) (hb : ¬ (q < zs.length ∧ 49 ≤ nth zs q ∧ nth zs q ≤ 57)) : intP zs q = (q, false) := by
  unfold intP; rw [if_neg (by rw [h]; decide), if_neg hb]
theorem int_zero (zs : List Int) (q : Nat) (h : atB zs q 48 = true) : intP zs q = fracP zs (q + 1) := by
  unfold intP; rw [if_pos h]
theorem frac_no (zs : List Int) (q : Nat) (h : atB zs q 46 = false) : fracP zs q = expP zs q := by
  unfold fracP; rw [if_neg (by rw [h]; decide)]
theorem frac_yes (zs : List Int) (q : Nat) (h : atB zs q 46 = true) (hd : q + 1 < dg zs (q + 1)) : fracP zs q = expP zs (dg zs (q + 1)) := by
  unfold fracP; rw [if_pos h, if_pos hd]
theorem frac_bad (zs : List Int) (q : Nat) (h : atB zs q 46 = true) (hd : ¬ q + 1 < dg zs (q + 1)) : fracP zs q = (dg zs (q + 1), false) := by
  unfold fracP; rw [if_pos h, if_neg hd]
theorem exp_no (zs : List Int) (q : Nat) (h : (atB zs q 101 || atB zs q 69) = false) : expP zs q = (q, true) := by
  unfold expP; rw [if_neg (by rw [h]; decide)]
theorem exp_yes (zs : List Int) (q r : Nat) (h : (atB zs q 101 || atB zs q 69) = true) (hr : (if atB zs (q + 1) 43 || atB zs (q + 1) 45 then q + 1 + 1 else q + 1) = r) : expP zs q = (dg zs r, decide (r < dg zs r)) := by
  unfold expP; rw [if_pos h]; simp only [hr]
theorem exp_lt (zs : List Int) (q : Nat) (h : (atB zs q 101 || atB zs q 69) = true) : q < zs.length := by
  rcases Bool.or_eq_true_iff.1 h with k | k
  · exact (at_in k).1
  · exact (at_in k).1

set_option maxRecDepth 100000 in
set_option maxHeartbeats 3200000 in
theorem number_any (w0 w : World) (D g cap p : Nat) (ad : Option Addr) (d : Int) (zs : List Int) (hn : zs.length ≤ 1048576) (hcap : zs.length ≤ cap) (hcap2 : cap ≤ 1048576)
    (hS : St w0 D g cap ad d zs w p) (hp : p ≤ zs.length) :
    Calls Try.prog 27 #[.pointer (some ⟨D, 0, none⟩)] w fun e w' => ∃ v, e = .returned v ∧ St w0 D g cap ad d zs w' (numP zs p).1 ∧
      (((numP zs p).2 = false ∧ v = .tuple #[.slice none 0 0, .bool false]) ∨ ((numP zs p).2 = true ∧ p < (numP zs p).1 ∧ v = .tuple #[.slice (some ⟨g, p, none⟩) ((numP zs p).1 - p) (cap - p), .bool true])) := by
  have c1 := hS.1.pos
  obtain ⟨b45, h45⟩ : ∃ b, Hid (atB zs p 45 = b) := ⟨_, rfl⟩
  go_enter Try.func27, Try.ntmps27
  go_upto_if 10 with (go_at_call 32; refine (at_any w0 _ D g cap p ad d zs _ (by assumption) hp b45 h45.out).mono ?_; rintro e w2 ⟨rfl, hS2⟩)
  go_cut [] (fun wx => ∃ q : Nat, q ≤ zs.length ∧ p ≤ q ∧ Hid (numP zs p = intP zs q) ∧ St w0 D g cap ad d zs wx q)
  case first =>
    clear hS c1
    have c1 := hS2.1.pos
    have c2 := hS2.1.free 1
    cases b45 with
    | true =>
      have hl := (at_in h45.out).1
      go_wp2
      go_meet
      exact ⟨p + 1, by omega, by omega, (by show numP zs p = _; unfold numP; rw [if_pos h45.out]), hS2.moved (p + 1)⟩
    | false =>
      go_wp2
      go_meet
      exact ⟨p, by omega, by omega, (by show numP zs p = _; unfold numP; rw [if_neg (by rw [h45.out]; decide)]), hS2⟩
  case rest =>
    obtain ⟨q, hq, hpq, hN, hSq⟩ := hcut
    clear hS hS2 c1 h45
    go_upto_block 0 with fail
    go_cut [] (fun wx => ∃ r : Nat, r ≤ zs.length ∧ p < r ∧ Hid (numP zs p = fracP zs r) ∧ St w0 D g cap ad d zs wx r)
    case first =>
      cases h48 : atB zs q 48 with
      | true =>
        have hl := (at_in h48).1
        go_wp2_with (go_at_call 32; refine (at_any w0 _ D g cap q ad d zs _ (by assumption) hq _ (by assumption)).mono ?_; rintro e w3 ⟨rfl, hS3⟩; have c1 := hS3.1.pos; have c2 := hS3.1.free 1; have hS4 := hS3.next)
        go_meet
        exact ⟨q + 1, by omega, by omega, (by show numP zs p = _; rw [hN.out, int_zero zs q h48]), hS4⟩
      | false =>
        by_cases hl : q < zs.length
        · obtain ⟨ha, -, hx0, hx1⟩ := Buf.nth hSq.2.2.1 q hl
          obtain ⟨x, hx⟩ : ∃ x : Int, Hid (x = nth zs q) := ⟨_, rfl⟩
          have HA : Hid (ad = some ⟨g, 0, none⟩) := ha
          rw [← hx.out] at hx0 hx1
          clear ha
          have q1 : (q : Int) < (zs.length : Int) := by omega
          by_cases h49 : 49 ≤ x
          · by_cases h57 : x ≤ 57
            · have HI := int_digit zs q h48 hl (by rw [← hx.out]; exact h49) (by rw [← hx.out]; exact h57)
              have HJ : Hid (intP zs q = fracP zs (dg zs q) ∧ q < dg zs q) := HI
              clear HI
              go_wp2_with (go_at_call 32; refine (at_any w0 _ D g cap q ad d zs _ (by assumption) hq _ (by assumption)).mono ?_; rintro e w3 ⟨rfl, hS3⟩; have c0 := hS3.1.data; rw [HA.out] at c0; have c1 := hS3.1.pos; have cx := (Buf.nth hS3.2.2.1 q hl).2.1; rw [← hx.out] at cx)
              go_quiet (fail)
              have hS5 := hS3.drewN nq
              go_wp2_with (go_at_call 33; refine (digits_any w0 _ D g cap q ad d zs hn (by assumption) hq true (by show decide (q < dg zs q) = true; exact decide_eq_true HJ.out.2)).mono ?_; rintro e w4 ⟨rfl, hS4⟩)
              go_meet
              exact ⟨dg zs q, (dg_le zs q hq).2, by have := HJ.out.2; omega, (by show numP zs p = _; rw [hN.out, HJ.out.1]), hS4⟩
            · have HB : Hid (numP zs p = (q, false)) := hN.out.trans (int_bad zs q h48 (by rw [← hx.out]; omega))
              have k57 : decide (x ≤ 57) = false := by simpa using h57
              go_wp2_with (go_at_call 32; refine (at_any w0 _ D g cap q ad d zs _ (by assumption) hq _ (by assumption)).mono ?_; rintro e w3 ⟨rfl, hS3⟩; have c0 := hS3.1.data; rw [HA.out] at c0; have c1 := hS3.1.pos; have cx := (Buf.nth hS3.2.2.1 q hl).2.1; rw [← hx.out] at cx)
              go_quiet (fail)
              go_wp2
              go_ret2
              exact ⟨_, rfl, by rw [HB.out]; exact hS3.drewN _, Or.inl ⟨by rw [HB.out], rfl⟩⟩
          · have HB : Hid (numP zs p = (q, false)) := hN.out.trans (int_bad zs q h48 (by rw [← hx.out]; omega))
            have k49 : decide (49 ≤ x) = false := by simpa using h49
            go_wp2_with (go_at_call 32; refine (at_any w0 _ D g cap q ad d zs _ (by assumption) hq _ (by assumption)).mono ?_; rintro e w3 ⟨rfl, hS3⟩; have c0 := hS3.1.data; rw [HA.out] at c0; have c1 := hS3.1.pos; have cx := (Buf.nth hS3.2.2.1 q hl).2.1; rw [← hx.out] at cx)
            go_quiet (fail)
            go_wp2
            go_ret2
            exact ⟨_, rfl, by rw [HB.out]; exact hS3.drewN _, Or.inl ⟨by rw [HB.out], rfl⟩⟩
        · have HB : Hid (numP zs p = (q, false)) := hN.out.trans (int_bad zs q h48 (fun k => hl k.1))
          obtain rfl : q = zs.length := by omega
          go_wp2_with (go_at_call 32; refine (at_any w0 _ D g cap zs.length ad d zs _ (by assumption) hq _ (by assumption)).mono ?_; rintro e w3 ⟨rfl, hS3⟩; have c0 := hS3.1.data; have c1 := hS3.1.pos)
          go_quiet (fail)
          go_wp2
          go_ret2
          exact ⟨_, rfl, by rw [HB.out]; exact hS3.drewN _, Or.inl ⟨by rw [HB.out], rfl⟩⟩
    case rest =>
      clear hSq hN hpq hq
      obtain ⟨q, hq, hpq, hN, hSq⟩ := hcut
      obtain ⟨b46, H46⟩ : ∃ b, Hid (atB zs q 46 = b) := ⟨_, rfl⟩
      go_upto_if 68 with (go_at_call 32; refine (at_any w0 _ D g cap q ad d zs _ (by assumption) hq b46 H46.out).mono ?_; rintro e w3 ⟨rfl, hS3⟩)
      go_cut [] (fun wx => ∃ r : Nat, r ≤ zs.length ∧ p < r ∧ Hid (numP zs p = expP zs r) ∧ St w0 D g cap ad d zs wx r)
      case first =>
        have c1 := hS3.1.pos
        have c2 := hS3.1.free 1
        have hS4 := hS3.next
        cases b46 with
        | true =>
          have h46 := H46.out
          have hl := (at_in h46).1
          have hq1 : q + 1 ≤ zs.length := by omega
          by_cases hd : q + 1 < dg zs (q + 1)
          · have HF : Hid (numP zs p = expP zs (dg zs (q + 1)) ∧ q + 1 < dg zs (q + 1)) := ⟨hN.out.trans (frac_yes zs q h46 hd), hd⟩
            clear hd
            go_wp2_with (go_at_call 33; refine (digits_any w0 _ D g cap (q + 1) ad d zs hn (by assumption) hq1 true (by show decide (q + 1 < dg zs (q + 1)) = true; exact decide_eq_true HF.out.2)).mono ?_; rintro e w4 ⟨rfl, hS5⟩)
            go_meet
            exact ⟨dg zs (q + 1), (dg_le zs (q + 1) hq1).2, by have := HF.out.2; omega, HF.out.1, hS5⟩
          · have HF : Hid (numP zs p = (dg zs (q + 1), false) ∧ ¬ q + 1 < dg zs (q + 1)) := ⟨hN.out.trans (frac_bad zs q h46 hd), hd⟩
            clear hd
            go_wp2_with (go_at_call 33; refine (digits_any w0 _ D g cap (q + 1) ad d zs hn (by assumption) hq1 false (by show decide (q + 1 < dg zs (q + 1)) = false; exact decide_eq_false HF.out.2)).mono ?_; rintro e w4 ⟨rfl, hS5⟩)
            go_ret2
            exact ⟨_, rfl, by rw [HF.out.1]; exact hS5, Or.inl ⟨by rw [HF.out.1], rfl⟩⟩
        | false =>
          have HF : Hid (numP zs p = expP zs q) := hN.out.trans (frac_no zs q H46.out)
          go_wp2
          go_meet
          exact ⟨q, hq, hpq, HF, hS3⟩
      case rest =>
        clear hSq hN hpq hq hS3 H46
        obtain ⟨q, hq, hpq, hN, hSq⟩ := hcut
        go_upto_region 13 with fail
        go_cut [84] (fun s wx => ∃ b : Bool, Hid ((atB zs q 101 || atB zs q 69) = b) ∧ s = .bool b ∧ St w0 D g cap ad d zs wx q)
        case first =>
          cases h1 : atB zs q 101 with
          | true =>
            go_wp2_with (go_at_call 32; refine (at_any w0 _ D g cap q ad d zs _ (by assumption) hq _ (by assumption)).mono ?_; rintro e w3 ⟨rfl, hS3⟩)
            go_meet
            exact ⟨true, (by show _ = true; rw [h1]; rfl), rfl, hS3⟩
          | false =>
            cases h2 : atB zs q 69 with
            | true =>
              go_wp2_with (go_at_call 32; refine (at_any w0 _ D g cap q ad d zs _ (by assumption) hq _ (by assumption)).mono ?_; rintro e w3 ⟨rfl, hS3⟩)
              go_meet
              exact ⟨true, (by show _ = true; rw [h1, h2]; rfl), rfl, hS3⟩
            | false =>
              go_wp2_with (go_at_call 32; refine (at_any w0 _ D g cap q ad d zs _ (by assumption) hq _ (by assumption)).mono ?_; rintro e w3 ⟨rfl, hS3⟩)
              go_meet
              exact ⟨false, (by show _ = false; rw [h1, h2]; rfl), rfl, hS3⟩
        case rest =>
          clear hSq
          obtain ⟨b, hb, rfl, hSq⟩ := hcut
          go_upto_if 84 with fail
          go_cut [] (fun wx => ∃ r : Nat, r ≤ zs.length ∧ p < r ∧ Hid (numP zs p = (r, true)) ∧ St w0 D g cap ad d zs wx r)
          case first =>
            have c1 := hSq.1.pos
            have c2 := hSq.1.free 1
            have hS2 := hSq.next
            cases b with
            | false =>
              have HF : Hid (numP zs p = (q, true)) := hN.out.trans (exp_no zs q hb.out)
              go_wp2
              go_meet
              exact ⟨q, hq, hpq, HF, hSq⟩
            | true =>
              have hl := exp_lt zs q hb.out
              have hq1 : q + 1 ≤ zs.length := by omega
              cases h1 : atB zs (q + 1) 43 with
              | true =>
                have hl2 := (at_in h1).1
                have hq2 : q + 1 + 1 ≤ zs.length := by omega
                have HR : Hid (numP zs p = (dg zs (q + 1 + 1), decide (q + 1 + 1 < dg zs (q + 1 + 1)))) := hN.out.trans (exp_yes zs q (q + 1 + 1) hb.out (by rw [h1]; rfl))
                by_cases hd : q + 1 + 1 < dg zs (q + 1 + 1)
                · have HD : Hid (q + 1 + 1 < dg zs (q + 1 + 1)) := hd
                  clear hd
                  go_wp2_with (first | (go_at_call 32; refine (at_any w0 _ D g cap (q + 1) ad d zs _ (by assumption) hq1 _ (by assumption)).mono ?_; rintro e w3 ⟨rfl, hS3⟩; have c1 := hS3.1.pos; have c2 := hS3.1.free 1; have hS4 := hS3.next) | (go_at_call 33; refine (digits_any w0 _ D g cap (q + 1 + 1) ad d zs hn (by assumption) hq2 true (by show decide (q + 1 + 1 < dg zs (q + 1 + 1)) = true; exact decide_eq_true HD.out)).mono ?_; rintro e w4 ⟨rfl, hS5⟩))
                  go_meet
                  exact ⟨dg zs (q + 1 + 1), (dg_le zs (q + 1 + 1) hq2).2, by have := HD.out; omega, (by show numP zs p = _; rw [HR.out, decide_eq_true HD.out]), hS5⟩
                · have HD : Hid (¬ q + 1 + 1 < dg zs (q + 1 + 1)) := hd
                  clear hd
                  go_wp2_with (first | (go_at_call 32; refine (at_any w0 _ D g cap (q + 1) ad d zs _ (by assumption) hq1 _ (by assumption)).mono ?_; rintro e w3 ⟨rfl, hS3⟩; have c1 := hS3.1.pos; have c2 := hS3.1.free 1; have hS4 := hS3.next) | (go_at_call 33; refine (digits_any w0 _ D g cap (q + 1 + 1) ad d zs hn (by assumption) hq2 false (by show decide (q + 1 + 1 < dg zs (q + 1 + 1)) = false; exact decide_eq_false HD.out)).mono ?_; rintro e w4 ⟨rfl, hS5⟩))
                  go_ret2
                  exact ⟨_, rfl, by rw [HR.out]; exact hS5, Or.inl ⟨by rw [HR.out]; exact decide_eq_false HD.out, rfl⟩⟩
              | false =>
                cases h2 : atB zs (q + 1) 45 with
                | true =>
                  have hl2 := (at_in h2).1
                  have hq2 : q + 1 + 1 ≤ zs.length := by omega
                  have HR : Hid (numP zs p = (dg zs (q + 1 + 1), decide (q + 1 + 1 < dg zs (q + 1 + 1)))) := hN.out.trans (exp_yes zs q (q + 1 + 1) hb.out (by rw [h1, h2]; rfl))
                  by_cases hd : q + 1 + 1 < dg zs (q + 1 + 1)
                  · have HD : Hid (q + 1 + 1 < dg zs (q + 1 + 1)) := hd
                    clear hd
                    go_wp2_with (first | (go_at_call 32; refine (at_any w0 _ D g cap (q + 1) ad d zs _ (by assumption) hq1 _ (by assumption)).mono ?_; rintro e w3 ⟨rfl, hS3⟩; have c1 := hS3.1.pos; have c2 := hS3.1.free 1; have hS4 := hS3.next) | (go_at_call 33; refine (digits_any w0 _ D g cap (q + 1 + 1) ad d zs hn (by assumption) hq2 true (by show decide (q + 1 + 1 < dg zs (q + 1 + 1)) = true; exact decide_eq_true HD.out)).mono ?_; rintro e w4 ⟨rfl, hS5⟩))
                    go_meet
                    exact ⟨dg zs (q + 1 + 1), (dg_le zs (q + 1 + 1) hq2).2, by have := HD.out; omega, (by show numP zs p = _; rw [HR.out, decide_eq_true HD.out]), hS5⟩
                  · have HD : Hid (¬ q + 1 + 1 < dg zs (q + 1 + 1)) := hd
                    clear hd
                    go_wp2_with (first | (go_at_call 32; refine (at_any w0 _ D g cap (q + 1) ad d zs _ (by assumption) hq1 _ (by assumption)).mono ?_; rintro e w3 ⟨rfl, hS3⟩; have c1 := hS3.1.pos; have c2 := hS3.1.free 1; have hS4 := hS3.next) | (go_at_call 33; refine (digits_any w0 _ D g cap (q + 1 + 1) ad d zs hn (by assumption) hq2 false (by show decide (q + 1 + 1 < dg zs (q + 1 + 1)) = false; exact decide_eq_false HD.out)).mono ?_; rintro e w4 ⟨rfl, hS5⟩))
                    go_ret2
                    exact ⟨_, rfl, by rw [HR.out]; exact hS5, Or.inl ⟨by rw [HR.out]; exact decide_eq_false HD.out, rfl⟩⟩
                | false =>
                  have HR : Hid (numP zs p = (dg zs (q + 1), decide (q + 1 < dg zs (q + 1)))) := hN.out.trans (exp_yes zs q (q + 1) hb.out (by rw [h1, h2]; rfl))
                  by_cases hd : q + 1 < dg zs (q + 1)
                  · have HD : Hid (q + 1 < dg zs (q + 1)) := hd
                    clear hd
                    go_wp2_with (first | (go_at_call 32; refine (at_any w0 _ D g cap (q + 1) ad d zs _ (by assumption) hq1 _ (by assumption)).mono ?_; rintro e w3 ⟨rfl, hS3⟩; have c1 := hS3.1.pos; have c2 := hS3.1.free 1; have hS4 := hS3.next) | (go_at_call 33; refine (digits_any w0 _ D g cap (q + 1) ad d zs hn (by assumption) hq1 true (by show decide (q + 1 < dg zs (q + 1)) = true; exact decide_eq_true HD.out)).mono ?_; rintro e w4 ⟨rfl, hS5⟩))
                    go_meet
                    exact ⟨dg zs (q + 1), (dg_le zs (q + 1) hq1).2, by have := HD.out; omega, (by show numP zs p = _; rw [HR.out, decide_eq_true HD.out]), hS5⟩
                  · have HD : Hid (¬ q + 1 < dg zs (q + 1)) := hd
                    clear hd
                    go_wp2_with (first | (go_at_call 32; refine (at_any w0 _ D g cap (q + 1) ad d zs _ (by assumption) hq1 _ (by assumption)).mono ?_; rintro e w3 ⟨rfl, hS3⟩; have c1 := hS3.1.pos; have c2 := hS3.1.free 1; have hS4 := hS3.next) | (go_at_call 33; refine (digits_any w0 _ D g cap (q + 1) ad d zs hn (by assumption) hq1 false (by show decide (q + 1 < dg zs (q + 1)) = false; exact decide_eq_false HD.out)).mono ?_; rintro e w4 ⟨rfl, hS5⟩))
                    go_ret2
                    exact ⟨_, rfl, by rw [HR.out]; exact hS5, Or.inl ⟨by rw [HR.out]; exact decide_eq_false HD.out, rfl⟩⟩
          case rest =>
            clear hSq hN hpq hq
            obtain ⟨q, hq, hpq, hN, hSq⟩ := hcut
            obtain ⟨ha, -, -, -⟩ := Buf.nth hSq.2.2.1 p (by omega)
            have c0 := hSq.1.data
            rw [ha] at c0
            have c1 := hSq.1.pos
            clear ha
            have q1 : (p : Int) ≤ (q : Int) := by omega
            have q2 : (q : Int) ≤ (cap : Int) := by omega
            go_wp2
            go_quiet (fail)
            go_wp2
            go_ret2
            exact ⟨_, rfl, by rw [hN.out]; exact hSq.drewN _, Or.inr ⟨by rw [hN.out], by rw [hN.out]; exact hpq, by rw [hN.out]; rfl⟩⟩
end Go.Proofs.Qxb6602928a.Num
