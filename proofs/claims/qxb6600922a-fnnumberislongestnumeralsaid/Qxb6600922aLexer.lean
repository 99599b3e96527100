import Derived.Test.Qxb6600922aModel
import Derived.Deep.QuietTactic
import Derived.BigQuiet
import Derived.WalkSmall
namespace Go.Proofs.Qxb6600922a.Lexer
open Go.ChangeShapes Go.WideShapes Go.ChangeAt Go.RowKit
open Plain Model

/-- The lexer in block D: its text, its place. -/
def Lx (w : World) (D : Nat) (s : ByteArray) (p : Int) : Prop :=
  w.heap[D]? = some (.cells #[.string s, .int .i64 p, .int .i64 0, .int .i64 0, .int .i64 0] 29 (0, 0))
/-- It stands at p; below it nothing has turned since w0. -/
def St (w0 : World) (D : Nat) (s : ByteArray) (w : World) (p : Nat) : Prop := Lx w D s p ∧ Below D w0 w

section
variable {w0 w : World} {D p : Nat} {s : ByteArray}
theorem St.src (h : St w0 D s w p) : w.cell? ⟨D, 0, none⟩ = some (.string s) := by have := h.1; unfold Lx at this; simp [World.cell?, this]
theorem St.pos (h : St w0 D s w p) : w.cell? ⟨D, 1, none⟩ = some (.int .i64 p) := by have := h.1; unfold Lx at this; simp [World.cell?, this]
theorem St.free (h : St w0 D s w p) (j : Nat) : w.frozen? ⟨D, j, none⟩ = false := frozen_of_row w D j _ 29 h.1
theorem St.drewN (h : St w0 D s w p) (k : Nat) : St w0 D s (w.drewN k) p := ⟨h.1, below_drewN h.2 k⟩
theorem St.moved (h : St w0 D s w p) (q : Nat) : St w0 D s (w.setCell ⟨D, 1, none⟩ (.int .i64 q)) q := by
  refine ⟨?_, h.2.setCell (Nat.le_refl _) _⟩
  have h1 := h.1
  unfold Lx at h1 ⊢
  simp [World.setCell, Array.getElem?_modify, h1]
theorem St.next (h : St w0 D s w p) : St w0 D s (w.setCell ⟨D, 1, none⟩ (.int .i64 ((p : Int) + 1))) (p + 1) := by
  have := h.moved (p + 1)
  simpa using this
end

set_option maxHeartbeats 400000 in
theorem dig_true (c : Int) (h1 : 48 ≤ c) (h2 : c ≤ 57) (w : World) : Calls Try.prog 18 #[.int .u8 c] w fun e w' => e = .returned (.bool true) ∧ w' = w := by
  go_enter Try.func18, Try.ntmps18
  go_wp2
  go_ret
  exact ⟨rfl, rfl⟩
set_option maxHeartbeats 400000 in
theorem dig_false (c : Int) (h : dgt c = false) (w : World) : Calls Try.prog 18 #[.int .u8 c] w fun e w' => e = .returned (.bool false) ∧ w' = w := by
  by_cases h1 : 48 ≤ c
  · have h2 : ¬ c ≤ 57 := by simp only [dgt, Bool.and_eq_false_iff, decide_eq_false_iff_not] at h; omega
    clear h
    go_enter Try.func18, Try.ntmps18
    go_wp2
    go_ret
    exact ⟨rfl, rfl⟩
  · clear h
    go_enter Try.func18, Try.ntmps18
    go_wp2
    go_ret
    exact ⟨rfl, rfl⟩

set_option maxRecDepth 100000 in
set_option maxHeartbeats 3200000 in
theorem number_any (w0 w : World) (D p : Nat) (s : ByteArray) (zs : List Int) (hT : Txt s zs) (hn : s.size ≤ 1048576) (hp : p ≤ s.size)
    (hS : St w0 D s w p) (en : Nat) (hE : Hid (numE zs p = en)) :
    Calls Try.prog 15 #[.pointer (some ⟨D, 0, none⟩)] w fun e w' => e = .returned (.string (s.extract p en)) ∧ St w0 D s w' en := by
  have HT : Hid (Txt s zs) := hT
  clear hT
  have c1 := hS.pos
  go_enter Try.func15, Try.ntmps15
  go_upto_block 0 with fail
  go_cut [] (fun wx => ∃ t : Nat, t ≤ s.size ∧ Hid (dg zs (p) = t) ∧ St w0 D s wx t)
  case first => as_aux_lemma =>
    go_wp2_with fail
    go_loopg [] (s.size - (p)) (fun k wx => ∃ t : Nat, t ≤ s.size ∧ Hid (k = s.size - t ∧ dg zs t = dg zs (p)) ∧ St w0 D s wx t)
    case atStart => exact ⟨p, hp, ⟨rfl, rfl⟩, hS⟩
    case round =>
      obtain ⟨t, htl, hK, hS2⟩ := hrel
      have c0 := hS2.src
      have c1 := hS2.pos
      have c2 := hS2.free 1
      by_cases hl : t < s.size
      · obtain ⟨c, hc⟩ : ∃ c : Nat, (s[t]'hl).toNat = c := ⟨_, rfl⟩
        have hnt := HT.out.2 (t) hl
        rw [hc] at hnt
        have HNT : Hid (nth zs (t) = (c : Int)) := hnt
        clear hnt
        have hzl : t < zs.length := by rw [HT.out.1]; exact hl
        have q1 : (t : Int) < (s.size : Int) := by omega
        by_cases hd : 48 ≤ (c : Int) ∧ (c : Int) ≤ 57
        · obtain ⟨d1, d2⟩ := hd
          have HD : Hid (dg zs (t + 1) = dg zs t) := dg_yes zs t hzl (by rw [HNT.out]; simp [dgt, d1, d2])
          go_wp2
          go_quiet ((go_at_call 18; exact Calls.quiet_of_same (dig_true _ d1 d2 _)))
          go_wp2
          go_roundg (s.size - (t + 1))
          case measure => have := hK.out.1; omega
          case rel => exact ⟨t + 1, by omega, ⟨rfl, HD.out.trans hK.out.2⟩, (hS2.drewN _).moved (t + 1)⟩
        · have hf : dgt (c : Int) = false := by simp only [dgt, Bool.and_eq_false_iff, decide_eq_false_iff_not]; omega
          have HD : Hid (dg zs t = t) := dg_no zs t hzl (by rw [HNT.out]; exact hf)
          clear hd
          go_wp2
          go_quiet ((go_at_call 18; exact Calls.quiet_of_same (dig_false _ hf _)))
          go_wp2
          go_meet
          exact ⟨t, htl, hK.out.2.symm.trans HD.out, hS2.drewN _⟩
      · obtain rfl : t = s.size := by omega
        have HD : Hid (dg zs s.size = s.size) := by
          have e := dg_end zs
          rw [HT.out.1] at e; exact e
        clear hl
        go_wp2
        go_quiet (fail)
        go_wp2
        go_meet
        exact ⟨s.size, htl, hK.out.2.symm.trans HD.out, hS2.drewN _⟩
  case rest =>

    obtain ⟨q, hq, hQ, hSq⟩ := hcut
    have hpq : p ≤ q := by have := (dg_le zs p (by rw [HT.out.1]; exact hp)).1; have h2 := hQ.out; omega
    clear hS c1
    go_upto_region 4 with fail
    go_cut [59] (fun sx wx => ∃ b : Bool, Hid (atB zs q 46 = b) ∧ sx = .bool b ∧ St w0 D s wx q)
    case first => as_aux_lemma =>
      have c0 := hSq.src
      have c1 := hSq.pos
      by_cases hl : q < s.size
      · obtain ⟨c, hc⟩ : ∃ c : Nat, (s[q]'hl).toNat = c := ⟨_, rfl⟩
        have hnt := HT.out.2 (q) hl
        rw [hc] at hnt
        have HNT : Hid (nth zs (q) = (c : Int)) := hnt
        clear hnt
        have hzl : q < zs.length := by rw [HT.out.1]; exact hl
        have q1 : (q : Int) < (s.size : Int) := by omega
        by_cases e46 : c = 46
        · subst e46
          go_wp2
          go_quiet (fail)
          go_wp2
          go_meet
          exact ⟨true, at_of hzl HNT.out, rfl, hSq.drewN _⟩
        have n46 : ((c : Int) == 46) = false := by simp; omega
        have HN : Hid (atB zs q 46 = false) := at_not (by rw [HNT.out]; omega) hzl
        clear e46
        go_wp2
        go_quiet (fail)
        go_wp2
        go_meet
        exact ⟨false, HN, rfl, hSq.drewN _⟩
      · obtain rfl : q = s.size := by omega
        go_wp2
        go_quiet (fail)
        go_wp2
        go_meet
        exact ⟨false, at_out (by rw [HT.out.1]; omega), rfl, hSq.drewN _⟩
    case rest =>

      clear hSq
      obtain ⟨b, hb, rfl, hSq⟩ := hcut
      go_upto_if 59 with fail
      go_cut [] (fun wx => ∃ r : Nat, r ≤ s.size ∧ q ≤ r ∧ Hid (fracE zs q = r) ∧ St w0 D s wx r)
      case first => as_aux_lemma =>
        have c1 := hSq.pos
        have c2 := hSq.free 1
        cases b with
        | false =>
          go_wp2
          go_meet
          exact ⟨q, hq, Nat.le_refl _, (by show fracE zs q = q; unfold fracE; rw [if_neg (by rw [hb.out]; decide)]), hSq⟩
        | true =>
          have hl := (at_in hb.out).1
          rw [HT.out.1] at hl
          have hq1 : q + 1 ≤ s.size := by omega
          have HF : Hid (fracE zs q = dg zs (q + 1)) := by show _ = _; unfold fracE; rw [if_pos hb.out]
          have hSn := hSq.next
          go_upto_block 2 with fail
          go_cut [] (fun wx => ∃ t : Nat, t ≤ s.size ∧ Hid (dg zs (q + 1) = t) ∧ St w0 D s wx t)
          case first => as_aux_lemma =>
            go_wp2_with fail
            go_loopg [] (s.size - (q + 1)) (fun k wx => ∃ t : Nat, t ≤ s.size ∧ Hid (k = s.size - t ∧ dg zs t = dg zs (q + 1)) ∧ St w0 D s wx t)
            case atStart => exact ⟨q + 1, hq1, ⟨rfl, rfl⟩, hSn⟩
            case round =>
              obtain ⟨t, htl, hK, hS2⟩ := hrel
              have c0 := hS2.src
              have c1 := hS2.pos
              have c2 := hS2.free 1
              by_cases hl : t < s.size
              · obtain ⟨c, hc⟩ : ∃ c : Nat, (s[t]'hl).toNat = c := ⟨_, rfl⟩
                have hnt := HT.out.2 (t) hl
                rw [hc] at hnt
                have HNT : Hid (nth zs (t) = (c : Int)) := hnt
                clear hnt
                have hzl : t < zs.length := by rw [HT.out.1]; exact hl
                have q1 : (t : Int) < (s.size : Int) := by omega
                by_cases hd : 48 ≤ (c : Int) ∧ (c : Int) ≤ 57
                · obtain ⟨d1, d2⟩ := hd
                  have HD : Hid (dg zs (t + 1) = dg zs t) := dg_yes zs t hzl (by rw [HNT.out]; simp [dgt, d1, d2])
                  go_wp2
                  go_quiet ((go_at_call 18; exact Calls.quiet_of_same (dig_true _ d1 d2 _)))
                  go_wp2
                  go_roundg (s.size - (t + 1))
                  case measure => have := hK.out.1; omega
                  case rel => exact ⟨t + 1, by omega, ⟨rfl, HD.out.trans hK.out.2⟩, (hS2.drewN _).moved (t + 1)⟩
                · have hf : dgt (c : Int) = false := by simp only [dgt, Bool.and_eq_false_iff, decide_eq_false_iff_not]; omega
                  have HD : Hid (dg zs t = t) := dg_no zs t hzl (by rw [HNT.out]; exact hf)
                  clear hd
                  go_wp2
                  go_quiet ((go_at_call 18; exact Calls.quiet_of_same (dig_false _ hf _)))
                  go_wp2
                  go_meet
                  exact ⟨t, htl, hK.out.2.symm.trans HD.out, hS2.drewN _⟩
              · obtain rfl : t = s.size := by omega
                have HD : Hid (dg zs s.size = s.size) := by
                  have e := dg_end zs
                  rw [HT.out.1] at e; exact e
                clear hl
                go_wp2
                go_quiet (fail)
                go_wp2
                go_meet
                exact ⟨s.size, htl, hK.out.2.symm.trans HD.out, hS2.drewN _⟩
          case rest =>

            obtain ⟨t, htl, hQ2, hSt⟩ := hcut
            have hqt : q ≤ t := by have := (dg_le zs (q + 1) (by rw [HT.out.1]; exact hq1)).1; have h2 := hQ2.out; omega
            go_wp2
            go_meet
            exact ⟨t, htl, hqt, HF.out.trans hQ2.out, hSt⟩
      case rest =>
        clear hSq hb
        obtain ⟨q2, hq2, hqq, hQ2, hSq⟩ := hcut
        have hpq2 : p ≤ q2 := by omega
        have HN : Hid (expE zs q2 = en) := by
          have h1 := hE.out
          unfold numE at h1
          rw [hQ.out, hQ2.out] at h1; exact h1
        clear hQ hQ2 hpq hqq hq hE
        go_upto_region 8 with fail
        go_cut [129] (fun sx wx => ∃ b : Bool, Hid (at2 zs q2 101 69 = b) ∧ sx = .bool b ∧ St w0 D s wx q2)
        case first => as_aux_lemma =>
          have c0 := hSq.src
          have c1 := hSq.pos
          by_cases hl : q2 < s.size
          · obtain ⟨c, hc⟩ : ∃ c : Nat, (s[q2]'hl).toNat = c := ⟨_, rfl⟩
            have hnt := HT.out.2 (q2) hl
            rw [hc] at hnt
            have HNT : Hid (nth zs (q2) = (c : Int)) := hnt
            clear hnt
            have hzl : q2 < zs.length := by rw [HT.out.1]; exact hl
            have q1 : (q2 : Int) < (s.size : Int) := by omega
            by_cases e101 : c = 101
            · subst e101
              go_wp2
              go_quiet (fail)
              go_wp2
              go_meet
              exact ⟨true, at2_of1 hzl HNT.out, rfl, hSq.drewN _⟩
            have n101 : ((c : Int) == 101) = false := by simp; omega
            by_cases e69 : c = 69
            · subst e69
              go_wp2
              go_quiet (fail)
              go_wp2
              go_meet
              exact ⟨true, at2_of2 hzl HNT.out, rfl, hSq.drewN _⟩
            have n69 : ((c : Int) == 69) = false := by simp; omega
            have HN : Hid (at2 zs q2 101 69 = false) := at2_not hzl (by rw [HNT.out]; omega) (by rw [HNT.out]; omega)
            clear e101 e69
            go_wp2
            go_quiet (fail)
            go_wp2
            go_meet
            exact ⟨false, HN, rfl, hSq.drewN _⟩
          · obtain rfl : q2 = s.size := by omega
            go_wp2
            go_quiet (fail)
            go_wp2
            go_meet
            exact ⟨false, at2_out (by rw [HT.out.1]; omega), rfl, hSq.drewN _⟩
        case rest =>

          clear hSq
          obtain ⟨b, hb, rfl, hSq⟩ := hcut
          go_upto_if 129 with fail
          go_cut [4] (fun _ wx => ∃ r : Nat, r ≤ s.size ∧ p ≤ r ∧ Hid (r = en) ∧ St w0 D s wx r)
          case first => as_aux_lemma =>
            cases b with
            | false =>
              have HX : Hid (q2 = en) := by
                have h1 := HN.out
                unfold expE at h1
                rw [if_neg (by rw [hb.out]; decide)] at h1; exact h1
              go_wp2
              go_meet
              exact ⟨q2, hq2, hpq2, HX, hSq⟩
            | true =>
              have hl0 := (at2_in hb.out).1
              rw [HT.out.1] at hl0
              have hq1 : q2 + 1 ≤ s.size := by omega
              have HX : Hid ((if sgn zs (q2 + 1) < dg zs (sgn zs (q2 + 1)) then dg zs (sgn zs (q2 + 1)) else q2) = en) := by
                have h1 := HN.out
                unfold expE at h1
                rw [if_pos hb.out] at h1; exact h1
              clear HN hb
              have c1 := hSq.pos
              go_upto_region 10 with fail
              go_cut [159] (fun sx wx => ∃ b : Bool, Hid (at2 zs (q2 + 1) 43 45 = b) ∧ sx = .bool b ∧ St w0 D s wx q2)
              case first => as_aux_lemma =>
                have c0 := hSq.src
                have c1 := hSq.pos
                by_cases hl : q2 + 1 < s.size
                · obtain ⟨c, hc⟩ : ∃ c : Nat, (s[q2 + 1]'hl).toNat = c := ⟨_, rfl⟩
                  have hnt := HT.out.2 (q2 + 1) hl
                  rw [hc] at hnt
                  have HNT : Hid (nth zs (q2 + 1) = (c : Int)) := hnt
                  clear hnt
                  have hzl : q2 + 1 < zs.length := by rw [HT.out.1]; exact hl
                  have q1 : (q2 : Int) + 1 < (s.size : Int) := by omega
                  by_cases e43 : c = 43
                  · subst e43
                    go_wp2
                    go_meet
                    exact ⟨true, at2_of1 hzl HNT.out, rfl, hSq⟩
                  have n43 : ((c : Int) == 43) = false := by simp; omega
                  by_cases e45 : c = 45
                  · subst e45
                    go_wp2
                    go_meet
                    exact ⟨true, at2_of2 hzl HNT.out, rfl, hSq⟩
                  have n45 : ((c : Int) == 45) = false := by simp; omega
                  have HN : Hid (at2 zs (q2 + 1) 43 45 = false) := at2_not hzl (by rw [HNT.out]; omega) (by rw [HNT.out]; omega)
                  clear e43 e45
                  go_wp2
                  go_meet
                  exact ⟨false, HN, rfl, hSq⟩
                · have q1 : ¬ (q2 : Int) + 1 < (s.size : Int) := by omega
                  go_wp2
                  go_meet
                  exact ⟨false, at2_out (by rw [HT.out.1]; omega), rfl, hSq⟩
              case rest =>

                clear hSq c1
                obtain ⟨b2, hb2, rfl, hSq⟩ := hcut
                go_upto_if 159 with fail
                go_cut [4] (fun s4 wx => ∃ r : Nat, r ≤ s.size ∧ q2 ≤ r ∧ Hid (sgn zs (q2 + 1) = r) ∧ s4 = .int .i64 r ∧ St w0 D s wx q2)
                case first => as_aux_lemma =>
                  cases b2 with
                  | true =>
                    have hl2 := (at2_in hb2.out).1
                    rw [HT.out.1] at hl2
                    go_wp2
                    go_meet
                    exact ⟨q2 + 1 + 1, by omega, by omega, (by show (if _ then _ else _) = _; rw [if_pos hb2.out]), by go_num, hSq⟩
                  | false =>
                    go_wp2
                    go_meet
                    exact ⟨q2 + 1, by omega, by omega, (by show (if _ then _ else _) = _; rw [if_neg (by rw [hb2.out]; decide)]), by go_num, hSq⟩
                case rest =>
                  clear hSq hb2
                  obtain ⟨r, hrl, hqr, hR, rfl, hSq⟩ := hcut
                  have HY : Hid ((if r < dg zs r then dg zs r else q2) = en) := by
                    have h1 := HX.out
                    rw [hR.out] at h1; exact h1
                  clear HX hR
                  go_upto_region 12 with fail
                  go_cut [177] (fun sx wx => ∃ b : Bool, Hid (decide (r < dg zs r) = b) ∧ sx = .bool b ∧ St w0 D s wx q2)
                  case first => as_aux_lemma =>
                    have c0 := hSq.src
                    by_cases hl : r < s.size
                    · obtain ⟨c, hc⟩ : ∃ c : Nat, (s[r]'hl).toNat = c := ⟨_, rfl⟩
                      have hnt := HT.out.2 (r) hl
                      rw [hc] at hnt
                      have HNT : Hid (nth zs (r) = (c : Int)) := hnt
                      clear hnt
                      have hzl : r < zs.length := by rw [HT.out.1]; exact hl
                      have q1 : (r : Int) < (s.size : Int) := by omega
                      by_cases hd : 48 ≤ (c : Int) ∧ (c : Int) ≤ 57
                      · obtain ⟨d1, d2⟩ := hd
                        have HD : Hid (decide (r < dg zs r) = true) := decide_eq_true ((first_digit zs r hzl).2 (by rw [HNT.out]; simp [dgt, d1, d2]))
                        go_wp2_with (go_at_call 18; refine (dig_true _ d1 d2 _).mono ?_; rintro e w2 ⟨rfl, rfl⟩)
                        go_meet
                        exact ⟨true, HD, rfl, hSq⟩
                      · have hf : dgt (c : Int) = false := by simp only [dgt, Bool.and_eq_false_iff, decide_eq_false_iff_not]; omega
                        have HD : Hid (decide (r < dg zs r) = false) := decide_eq_false (fun k => by have h1 := (first_digit zs r hzl).1 k; rw [HNT.out, hf] at h1; cases h1)
                        clear hd
                        go_wp2_with (go_at_call 18; refine (dig_false _ hf _).mono ?_; rintro e w2 ⟨rfl, rfl⟩)
                        go_meet
                        exact ⟨false, HD, rfl, hSq⟩
                    · have q1 : ¬ (r : Int) < (s.size : Int) := by omega
                      have HD : Hid (decide (r < dg zs r) = false) := by
                        have e : r = zs.length := by rw [HT.out.1]; omega
                        show decide _ = false
                        rw [e, dg_end]; simp
                      go_wp2
                      go_meet
                      exact ⟨false, HD, rfl, hSq⟩
                  case rest =>
                    clear hSq
                    obtain ⟨b3, hb3, rfl, hSq⟩ := hcut
                    have c1 := hSq.pos
                    have c2 := hSq.free 1
                    cases b3 with
                    | false =>
                      have HZ : Hid (q2 = en) := by
                        have h1 := HY.out
                        rw [if_neg (of_decide_eq_false hb3.out)] at h1; exact h1
                      go_wp2
                      go_meet
                      exact ⟨q2, hq2, hpq2, HZ, hSq⟩
                    | true =>
                      have hlt : r < dg zs r := of_decide_eq_true hb3.out
                      have HZ : Hid (dg zs r = en) := by
                        have h1 := HY.out
                        rw [if_pos hlt] at h1; exact h1
                      clear HY hb3 hlt
                      have hSn := hSq.moved r
                      go_upto_block 4 with fail
                      go_cut [] (fun wx => ∃ t : Nat, t ≤ s.size ∧ Hid (dg zs (r) = t) ∧ St w0 D s wx t)
                      case first => as_aux_lemma =>
                        go_wp2_with fail
                        go_loopg [] (s.size - (r)) (fun k wx => ∃ t : Nat, t ≤ s.size ∧ Hid (k = s.size - t ∧ dg zs t = dg zs (r)) ∧ St w0 D s wx t)
                        case atStart => exact ⟨r, hrl, ⟨rfl, rfl⟩, hSn⟩
                        case round =>
                          obtain ⟨t, htl, hK, hS2⟩ := hrel
                          have c0 := hS2.src
                          have c1 := hS2.pos
                          have c2 := hS2.free 1
                          by_cases hl : t < s.size
                          · obtain ⟨c, hc⟩ : ∃ c : Nat, (s[t]'hl).toNat = c := ⟨_, rfl⟩
                            have hnt := HT.out.2 (t) hl
                            rw [hc] at hnt
                            have HNT : Hid (nth zs (t) = (c : Int)) := hnt
                            clear hnt
                            have hzl : t < zs.length := by rw [HT.out.1]; exact hl
                            have q1 : (t : Int) < (s.size : Int) := by omega
                            by_cases hd : 48 ≤ (c : Int) ∧ (c : Int) ≤ 57
                            · obtain ⟨d1, d2⟩ := hd
                              have HD : Hid (dg zs (t + 1) = dg zs t) := dg_yes zs t hzl (by rw [HNT.out]; simp [dgt, d1, d2])
                              go_wp2
                              go_quiet ((go_at_call 18; exact Calls.quiet_of_same (dig_true _ d1 d2 _)))
                              go_wp2
                              go_roundg (s.size - (t + 1))
                              case measure => have := hK.out.1; omega
                              case rel => exact ⟨t + 1, by omega, ⟨rfl, HD.out.trans hK.out.2⟩, (hS2.drewN _).moved (t + 1)⟩
                            · have hf : dgt (c : Int) = false := by simp only [dgt, Bool.and_eq_false_iff, decide_eq_false_iff_not]; omega
                              have HD : Hid (dg zs t = t) := dg_no zs t hzl (by rw [HNT.out]; exact hf)
                              clear hd
                              go_wp2
                              go_quiet ((go_at_call 18; exact Calls.quiet_of_same (dig_false _ hf _)))
                              go_wp2
                              go_meet
                              exact ⟨t, htl, hK.out.2.symm.trans HD.out, hS2.drewN _⟩
                          · obtain rfl : t = s.size := by omega
                            have HD : Hid (dg zs s.size = s.size) := by
                              have e := dg_end zs
                              rw [HT.out.1] at e; exact e
                            clear hl
                            go_wp2
                            go_quiet (fail)
                            go_wp2
                            go_meet
                            exact ⟨s.size, htl, hK.out.2.symm.trans HD.out, hS2.drewN _⟩
                      case rest =>

                        obtain ⟨t, htl, hQ3, hSt⟩ := hcut
                        have hrt : r ≤ t := by have := (dg_le zs r (by rw [HT.out.1]; exact hrl)).1; have h2 := hQ3.out; omega
                        have HW : Hid (t = en) := by have h1 := HZ.out; have h2 := hQ3.out; show t = en; omega
                        go_wp2
                        go_meet
                        exact ⟨t, htl, by omega, HW, hSt⟩
          case rest =>
            obtain ⟨r, hrl, hpr, hR, hSr⟩ := hcut
            have c0 := hSr.src
            have c1 := hSr.pos
            obtain rfl := hR.out
            clear hSq hb HN hq2 hpq2
            have q1 : (p : Int) ≤ (r : Int) := by omega
            have q2 : (r : Int) ≤ (s.size : Int) := by omega
            go_wp2
            go_quiet (fail)
            go_wp2
            go_ret
            exact ⟨rfl, hSr.drewN _⟩
end Go.Proofs.Qxb6600922a.Lexer
