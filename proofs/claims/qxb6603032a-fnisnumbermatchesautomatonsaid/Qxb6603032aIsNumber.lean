import Derived.Test.Qxb6603032aModel
import Derived.Deep.LoopGhost
import Derived.Deep.DeepCutAuto
import Derived.Deep.CutBlock
namespace Go.Proofs.Qxb6603032a.IsNumber
open Go.ChangeShapes Go.WideShapes Go.ChangeAt Go.RowKit
open Clone Plain Model

set_option maxRecDepth 100000 in
set_option maxHeartbeats 3200000 in
theorem num_some (w : World) (g cap : Nat) (zs : List Int) (fl : Bool) (hn : zs.length ≤ 1048576) (hB : Buf w g zs) (ok : Bool) (hr : Hid (isN fl zs = ok)) :
    Calls Try.prog 17 #[.slice (some ⟨g, 0, none⟩) zs.length cap, .bool fl] w fun e w' => e = .returned (.bool ok) ∧ w = w' := by
  have HB : Hid (Buf w g zs) := hB
  clear hB
  go_enter Try.func17, Try.ntmps17
  go_upto_region 2 with fail
  go_cut [28] (fun s wx => ∃ b : Bool, Hid (at2 zs 0 43 45 = b) ∧ s = .bool b ∧ w = wx)
  case first =>
    by_cases hl : 0 < zs.length
    · obtain ⟨hcx, hx0, hx1⟩ := HB.out (0) hl
      obtain ⟨x, hx⟩ : ∃ x : Int, Hid (x = nth zs 0) := ⟨_, rfl⟩
      rw [← hx.out] at hcx hx0 hx1
      have q1 : (0 : Int) < (zs.length : Int) := by omega
      by_cases e1 : x = 43
      · subst e1
        go_wp2
        go_meet
        exact ⟨true, at2_of1 hl hx.out.symm, rfl, rfl⟩
      · have n1 : (x == 43) = false := by simpa using e1
        by_cases e2 : x = 45
        · subst e2
          go_wp2
          go_meet
          exact ⟨true, at2_of2 hl hx.out.symm, rfl, rfl⟩
        · have n2 : (x == 45) = false := by simpa using e2
          have HN : Hid (at2 zs 0 43 45 = false) := at2_not hl (by rw [← hx.out]; exact e1) (by rw [← hx.out]; exact e2)
          clear e1 e2
          go_wp2
          go_meet
          exact ⟨false, HN, rfl, rfl⟩
    · have q1 : ¬ (0 : Int) < (zs.length : Int) := by omega
      go_wp2
      go_meet
      exact ⟨false, at2_out (by omega), rfl, rfl⟩
  case rest =>
    obtain ⟨b, hb, rfl, rfl⟩ := hcut
    go_upto_if 28 with fail
    go_cut [5] (fun s wx => ∃ q : Nat, q ≤ zs.length ∧ q ≤ 1 ∧ Hid (sgn zs 0 = q) ∧ s = .int .i64 q ∧ w = wx)
    case first =>
      cases b with
      | true =>
        have hl := (at2_in hb.out).1
        go_wp2
        go_meet
        exact ⟨1, by omega, by omega, (by show (if _ then _ else _) = _; rw [if_pos hb.out]), rfl, rfl⟩
      | false =>
        go_wp2
        go_meet
        exact ⟨0, by omega, by omega, (by show (if _ then _ else _) = _; rw [if_neg (by rw [hb.out]; decide)]), rfl, rfl⟩
    case rest =>
      obtain ⟨q0, hq0, hq1, hs0, rfl, rfl⟩ := hcut
      clear hb
      go_upto_block 0 with fail
      go_cut [5, 6, 7] (fun s5 s6 s7 wx => ∃ (q d : Nat) (pt : Bool), q ≤ zs.length ∧ d ≤ q ∧ Hid (scP zs (sgn zs 0) 0 false = (q, d, pt)) ∧ s5 = .int .i64 q ∧ s6 = .int .i64 d ∧ s7 = .bool pt ∧ w = wx)
      case first =>
        go_wp2_with fail
        go_loopg [5, 6, 7] (zs.length - q0) (fun k s5 s6 s7 wx => ∃ (q d : Nat) (pt : Bool), q ≤ zs.length ∧ d ≤ q ∧ Hid (k = zs.length - q ∧ scP zs q d pt = scP zs (sgn zs 0) 0 false) ∧ s5 = .int .i64 q ∧ s6 = .int .i64 d ∧ s7 = .bool pt ∧ w = wx)
        case atStart => exact ⟨q0, 0, false, hq0, by omega, ⟨rfl, by rw [hs0.out]⟩, rfl, rfl, rfl, rfl⟩
        case round =>
          obtain ⟨q, d, pt, hq, hdq, hK, rfl, rfl, rfl, rfl⟩ := hrel
          by_cases hl : q < zs.length
          · obtain ⟨hcx, hx0, hx1⟩ := HB.out q hl
            obtain ⟨x, hx⟩ : ∃ x : Int, Hid (x = nth zs q) := ⟨_, rfl⟩
            rw [← hx.out] at hcx hx0 hx1
            have q1 : (q : Int) < (zs.length : Int) := by omega
            by_cases e46 : x = 46
            · subst e46
              cases pt with
              | false =>
                have HD : Hid (scP zs q d false = scP zs (q + 1) d true) := scP_dot zs q d false hl (by rw [← hx.out]; rfl)
                go_wp2
                go_roundg (zs.length - (q + 1))
                case measure => have := hK.out.1; omega
                case rel => exact ⟨q + 1, d, true, by omega, by omega, ⟨rfl, HD.out.symm.trans hK.out.2⟩, by go_num, rfl, rfl, rfl⟩
              | true =>
                have HD : Hid (scP zs q d true = (q, d, true)) := scP_stop zs q d true hl (by simp) (by rw [← hx.out]; rfl)
                go_wp2
                go_meet
                exact ⟨q, d, true, hq, hdq, hK.out.2.symm.trans HD.out, rfl, rfl, rfl, rfl⟩
            · have n46 : (x == 46) = false := by simpa using e46
              have hne : (nth zs q == 46 && !pt) = false := by rw [← hx.out, n46]; rfl
              by_cases h48 : 48 ≤ x
              · by_cases h57 : x ≤ 57
                · have HD : Hid (scP zs q d pt = scP zs (q + 1) (d + 1) pt) := scP_dig zs q d pt hl hne (by rw [← hx.out]; simp [dgt, h48, h57])
                  clear hne e46
                  go_wp2
                  go_roundg (zs.length - (q + 1))
                  case measure => have := hK.out.1; omega
                  case rel => exact ⟨q + 1, d + 1, pt, by omega, by omega, ⟨rfl, HD.out.symm.trans hK.out.2⟩, by go_num, by go_num, rfl, rfl⟩
                · have HD : Hid (scP zs q d pt = (q, d, pt)) := scP_stop zs q d pt hl hne (by rw [← hx.out]; simp [dgt, h57])
                  clear hne e46
                  go_wp2
                  go_meet
                  exact ⟨q, d, pt, hq, hdq, hK.out.2.symm.trans HD.out, rfl, rfl, rfl, rfl⟩
              · have HD : Hid (scP zs q d pt = (q, d, pt)) := scP_stop zs q d pt hl hne (by rw [← hx.out]; simp [dgt, h48])
                clear hne e46
                go_wp2
                go_meet
                exact ⟨q, d, pt, hq, hdq, hK.out.2.symm.trans HD.out, rfl, rfl, rfl, rfl⟩
          · have q1 : ¬ (q : Int) < (zs.length : Int) := by omega
            have HD : Hid (scP zs q d pt = (q, d, pt)) := scP_end zs q d pt (by omega)
            go_wp2
            go_meet
            exact ⟨q, d, pt, hq, hdq, hK.out.2.symm.trans HD.out, rfl, rfl, rfl, rfl⟩
      case rest =>
        obtain ⟨q, d, pt, hq, hdq, hT, rfl, rfl, rfl, rfl⟩ := hcut
        clear hs0 hq0 hq1
        by_cases hd0 : d = 0
        · subst hd0
          have HE : ok = false := by rw [← hr.out]; unfold isN; rw [hT.out]; rfl
          subst HE
          go_wp2
          go_ret
          exact ⟨rfl, rfl⟩
        · have nd0 : ((d : Int) == 0) = false := by simp; omega
          have HF : Hid (fin fl zs q pt = ok) := by
            have h1 := hr.out
            unfold isN at h1
            rw [hT.out] at h1
            simp only [hd0] at h1
            exact h1
          clear hd0 hT hr hdq
          go_upto_region 15 with fail
          go_cut [74] (fun s wx => ∃ b : Bool, Hid (at2 zs q 101 69 = b) ∧ s = .bool b ∧ w = wx)
          case first =>
            by_cases hl : q < zs.length
            · obtain ⟨hcx, hx0, hx1⟩ := HB.out (q) hl
              obtain ⟨x, hx⟩ : ∃ x : Int, Hid (x = nth zs q) := ⟨_, rfl⟩
              rw [← hx.out] at hcx hx0 hx1
              have q1 : (q : Int) < (zs.length : Int) := by omega
              by_cases e1 : x = 101
              · subst e1
                go_wp2
                go_meet
                exact ⟨true, at2_of1 hl hx.out.symm, rfl, rfl⟩
              · have n1 : (x == 101) = false := by simpa using e1
                by_cases e2 : x = 69
                · subst e2
                  go_wp2
                  go_meet
                  exact ⟨true, at2_of2 hl hx.out.symm, rfl, rfl⟩
                · have n2 : (x == 69) = false := by simpa using e2
                  have HN : Hid (at2 zs q 101 69 = false) := at2_not hl (by rw [← hx.out]; exact e1) (by rw [← hx.out]; exact e2)
                  clear e1 e2
                  go_wp2
                  go_meet
                  exact ⟨false, HN, rfl, rfl⟩
            · have q1 : ¬ (q : Int) < (zs.length : Int) := by omega
              go_wp2
              go_meet
              exact ⟨false, at2_out (by omega), rfl, rfl⟩
          case rest =>
            obtain ⟨b, hb, rfl, rfl⟩ := hcut
            go_upto_if 74 with fail
            go_cut [5, 9] (fun s5 s9 wx => ∃ (r : Nat) (ex : Bool), r ≤ zs.length ∧ Hid (((r == zs.length) && ((!fl || pt) || ex)) = ok) ∧ s5 = .int .i64 r ∧ s9 = .bool ex ∧ w = wx)
            case first =>
              cases b with
              | false =>
                have HG : Hid (((q == zs.length) && ((!fl || pt) || false)) = ok) := by
                  have h1 := HF.out
                  unfold fin at h1
                  rw [if_neg (by rw [hb.out]; decide)] at h1
                  show _ = ok
                  rw [Bool.or_false]; exact h1
                go_wp2
                go_meet
                exact ⟨q, false, hq, HG, rfl, rfl, rfl⟩
              | true =>
                have hl := (at2_in hb.out).1
                have HG : Hid ((if dg zs (sgn zs (q + 1)) = sgn zs (q + 1) then false else dg zs (sgn zs (q + 1)) == zs.length) = ok) := by
                  have h1 := HF.out
                  unfold fin at h1
                  rw [if_pos hb.out] at h1
                  exact h1
                clear HF
                go_upto_region 18 with fail
                go_cut [94] (fun s wx => ∃ b : Bool, Hid (at2 zs (q + 1) 43 45 = b) ∧ s = .bool b ∧ w = wx)
                case first =>
                  clear hl
                  by_cases hl : q + 1 < zs.length
                  · obtain ⟨hcx, hx0, hx1⟩ := HB.out (q + 1) hl
                    obtain ⟨x, hx⟩ : ∃ x : Int, Hid (x = nth zs (q + 1)) := ⟨_, rfl⟩
                    rw [← hx.out] at hcx hx0 hx1
                    have q1 : (q : Int) + 1 < (zs.length : Int) := by omega
                    by_cases e1 : x = 43
                    · subst e1
                      go_wp2
                      go_meet
                      exact ⟨true, at2_of1 hl hx.out.symm, rfl, rfl⟩
                    · have n1 : (x == 43) = false := by simpa using e1
                      by_cases e2 : x = 45
                      · subst e2
                        go_wp2
                        go_meet
                        exact ⟨true, at2_of2 hl hx.out.symm, rfl, rfl⟩
                      · have n2 : (x == 45) = false := by simpa using e2
                        have HN : Hid (at2 zs (q + 1) 43 45 = false) := at2_not hl (by rw [← hx.out]; exact e1) (by rw [← hx.out]; exact e2)
                        clear e1 e2
                        go_wp2
                        go_meet
                        exact ⟨false, HN, rfl, rfl⟩
                  · have q1 : ¬ (q : Int) + 1 < (zs.length : Int) := by omega
                    go_wp2
                    go_meet
                    exact ⟨false, at2_out (by omega), rfl, rfl⟩
                case rest =>
                  obtain ⟨b2, hb2, rfl, rfl⟩ := hcut
                  go_upto_if 94 with fail
                  go_cut [5] (fun s wx => ∃ r : Nat, r ≤ zs.length ∧ Hid (sgn zs (q + 1) = r) ∧ s = .int .i64 r ∧ w = wx)
                  case first =>
                    cases b2 with
                    | true =>
                      have hl2 := (at2_in hb2.out).1
                      go_wp2
                      go_meet
                      exact ⟨q + 1 + 1, by omega, (by show (if _ then _ else _) = _; rw [if_pos hb2.out]), by go_num, rfl⟩
                    | false =>
                      go_wp2
                      go_meet
                      exact ⟨q + 1, by omega, (by show (if _ then _ else _) = _; rw [if_neg (by rw [hb2.out]; decide)]), by go_num, rfl⟩
                  case rest =>
                    obtain ⟨r, hrl, hsr, rfl, rfl⟩ := hcut
                    clear hb2 hb hl hq
                    go_upto_block 2 with fail
                    go_cut [5] (fun s wx => ∃ t : Nat, t ≤ zs.length ∧ Hid (dg zs r = t) ∧ s = .int .i64 t ∧ w = wx)
                    case first =>
                      go_wp2_with fail
                      go_loopg [5] (zs.length - r) (fun k s5 wx => ∃ t : Nat, t ≤ zs.length ∧ Hid (k = zs.length - t ∧ dg zs t = dg zs r) ∧ s5 = .int .i64 t ∧ w = wx)
                      case atStart => exact ⟨r, hrl, ⟨rfl, rfl⟩, rfl, rfl⟩
                      case round =>
                        obtain ⟨t, htl, hK, rfl, rfl⟩ := hrel
                        by_cases hl : t < zs.length
                        · obtain ⟨hcx, hx0, hx1⟩ := HB.out t hl
                          obtain ⟨x, hx⟩ : ∃ x : Int, Hid (x = nth zs t) := ⟨_, rfl⟩
                          rw [← hx.out] at hcx hx0 hx1
                          have q1 : (t : Int) < (zs.length : Int) := by omega
                          by_cases h48 : 48 ≤ x
                          · by_cases h57 : x ≤ 57
                            · have HD : Hid (dg zs (t + 1) = dg zs t) := dg_yes zs t hl (by rw [← hx.out]; simp [dgt, h48, h57])
                              go_wp2
                              go_roundg (zs.length - (t + 1))
                              case measure => have := hK.out.1; omega
                              case rel => exact ⟨t + 1, by omega, ⟨rfl, HD.out.trans hK.out.2⟩, by go_num, rfl⟩
                            · have HD : Hid (dg zs t = t) := dg_no zs t hl (by rw [← hx.out]; simp [dgt, h57])
                              go_wp2
                              go_meet
                              exact ⟨t, htl, hK.out.2.symm.trans HD.out, rfl, rfl⟩
                          · have HD : Hid (dg zs t = t) := dg_no zs t hl (by rw [← hx.out]; simp [dgt, h48])
                            go_wp2
                            go_meet
                            exact ⟨t, htl, hK.out.2.symm.trans HD.out, rfl, rfl⟩
                        · have q1 : ¬ (t : Int) < (zs.length : Int) := by omega
                          have HD : Hid (dg zs t = t) := by
                            have e : t = zs.length := by omega
                            show dg zs t = t
                            rw [e]; exact dg_end zs
                          go_wp2
                          go_meet
                          exact ⟨t, htl, hK.out.2.symm.trans HD.out, rfl, rfl⟩
                    case rest =>
                      obtain ⟨t, htl, hdt, rfl, rfl⟩ := hcut
                      have HH : (if t = r then false else t == zs.length) = ok := by
                        have h1 := HG.out
                        rw [hsr.out, hdt.out] at h1; exact h1
                      by_cases htr : t = r
                      · rw [if_pos htr] at HH
                        subst HH
                        have e1 : ((t : Int) == (r : Int)) = true := by simp [htr]
                        clear htr
                        go_wp2
                        go_ret
                        exact ⟨rfl, rfl⟩
                      · rw [if_neg htr] at HH
                        have e1 : ((t : Int) == (r : Int)) = false := by simp; omega
                        have HI : Hid (((t == zs.length) && ((!fl || pt) || true)) = ok) := by
                          show _ = ok
                          rw [Bool.or_true, Bool.and_true]; exact HH
                        clear htr HH
                        go_wp2
                        go_meet
                        exact ⟨t, true, htl, HI, rfl, rfl, rfl⟩
            case rest =>
              clear HF hb hq
              obtain ⟨r, ex, hrl, hI, rfl, rfl, rfl⟩ := hcut
              by_cases hend : r = zs.length
              · have e1 : ((r : Int) == (zs.length : Int)) = true := by rw [hend]; simp
                have e2 : (r == zs.length) = true := by rw [hend]; simp
                have HJ := hI.out
                rw [e2] at HJ
                clear hI e2 hend
                cases fl
                all_goals cases pt
                all_goals cases ex
                all_goals
                  subst HJ
                  go_wp2
                  go_ret
                  exact ⟨rfl, rfl⟩
              · have e1 : ((r : Int) == (zs.length : Int)) = false := by simp; omega
                have e2 : (r == zs.length) = false := by simpa using hend
                have HJ := hI.out
                rw [e2] at HJ
                clear hI e2 hend
                subst HJ
                go_wp2
                go_ret
                exact ⟨rfl, rfl⟩

set_option maxRecDepth 100000 in
set_option maxHeartbeats 800000 in
theorem num_nil (w : World) (fl : Bool) : Calls Try.prog 17 #[.slice none 0 0, .bool fl] w fun e w' => e = .returned (.bool false) ∧ w = w' := by
  go_enter Try.func17, Try.ntmps17
  go_wp2
  refine wp_loop_rounds 1 ?_
  rw [rounds_succ]
  go_wp2
  go_ret
  exact ⟨rfl, rfl⟩
end Go.Proofs.Qxb6603032a.IsNumber
