import Derived.Test.Qxb6602928aPeekPlain
namespace Go.Proofs.Qxb6602928a.Peek
open Go.ChangeShapes Go.WideShapes Go.ChangeAt Go.RowKit
open Clone Decoder

set_option maxHeartbeats 800000 in
theorem skip_any (w : World) (D g cap p : Nat) (ad : Option Addr) (d : Int) (zs : List Int) (hn : zs.length ≤ 1048576) (hp : p ≤ zs.length) (hgD : 0 < zs.length → g < D)
    (hD : Dc w D ad zs.length cap p d) (hB : Buf w ad g zs) :
    Calls Try.prog 34 #[.pointer (some ⟨D, 0, none⟩)] w fun e w' => e = .returned (.tuple #[]) ∧ Dc w' D ad zs.length cap (sk zs p) d ∧ Below D w w' := by
  go_enter Try.func34, Try.ntmps34
  go_wp2
  go_loopg [] (zs.length - p) (fun k wr => ∃ q : Nat, p ≤ q ∧ q ≤ zs.length ∧ k = zs.length - q ∧ sk zs q = sk zs p ∧ Dc wr D ad zs.length cap q d ∧ Below D w wr)
  case atStart => exact ⟨p, by omega, hp, rfl, rfl, hD, Below.refl _ _⟩
  case round =>
    obtain ⟨q, hpq, hq, hk, hs, hDr, hb⟩ := hrel
    have HS : Hid (gk = zs.length - q ∧ sk zs q = sk zs p) := ⟨hk, hs⟩
    clear hk hs
    have c0 := hDr.data
    have c1 := hDr.pos
    have c2 := hDr.free 1
    by_cases hlt : q < zs.length
    · have hBq := (hB.below hb hgD) q hlt
      clear hB hD
      obtain ⟨ha, hcx, hx0, hx1⟩ := hBq
      rw [ha] at c0
      clear ha
      obtain ⟨x, hx⟩ : ∃ x : Int, Hid (x = zs.getD q 0) := ⟨_, rfl⟩
      rw [← hx.out] at hcx hx0 hx1
      have q1 : (q : Int) < (zs.length : Int) := by omega
      by_cases hsp : sp x = true
      · have hor : x = 32 ∨ x = 9 ∨ x = 10 ∨ x = 13 := by
          simp only [sp, Bool.or_eq_true, beq_iff_eq] at hsp; exact hsp
        have HW := sk_white zs q hlt (by rw [← hx.out]; exact hsp)
        have HW2 : Hid (sk zs (q + 1) = sk zs q) := HW
        clear hsp HW hx
        rcases hor with rfl | rfl | rfl | rfl
        all_goals
          go_wp2
          go_quiet (fail)
          go_wp2
          go_quiet (fail)
          go_wp2
          go_roundg (zs.length - (q + 1))
          case measure => have := HS.out.1; omega
          case rel => exact ⟨q + 1, by omega, by omega, rfl, by rw [HW2.out]; exact HS.out.2, hDr.moved _, (below_drewN hb _).setCell (Nat.le_refl _) _⟩
      · have hf : sp x = false := by simpa using hsp
        have HB := sk_black zs q hlt (by rw [← hx.out]; exact hf)
        have e1 : (x == 32) = false := by simp only [sp, Bool.or_eq_false_iff] at hf; exact hf.1
        have e2 : (x == 9) = false := by simp only [sp, Bool.or_eq_false_iff] at hf; exact hf.2.1
        have e3 : (x == 10) = false := by simp only [sp, Bool.or_eq_false_iff] at hf; exact hf.2.2.1
        have e4 : (x == 13) = false := by simp only [sp, Bool.or_eq_false_iff] at hf; exact hf.2.2.2
        have HE : Hid (q = sk zs p) := by have h1 := HS.out.2; show q = sk zs p; omega
        clear hsp hf HB hx
        go_wp2
        go_quiet (fail)
        go_wp2
        go_quiet (fail)
        go_wp2
        refine bodyPost_ret (results_none rfl _ _ _) rfl ?_
        exact ⟨rfl, by rw [← HE.out]; exact hDr, below_drewN hb _⟩
    · have HE : Hid (q = sk zs p) := by
        have h1 := HS.out.2
        have h2 : q = zs.length := by omega
        rw [h2, sk_end] at h1
        show q = sk zs p
        omega
      have q1 : ¬ (q : Int) < (zs.length : Int) := by omega
      clear hB hD
      go_wp2
      go_quiet (fail)
      go_wp2
      go_end0
      exact ⟨rfl, by rw [← HE.out]; exact hDr, below_drewN hb _⟩

theorem drawn_out {D : Nat} {w w2 : World} {n : Nat} (h : Below D (w.drewN n) w2) : Below D w w2 := ⟨h.os, h.tape, h.output, h.size, h.block⟩
set_option maxHeartbeats 800000 in
theorem peek_fast (w : World) (D g cap p : Nat) (ad : Option Addr) (d : Int) (zs : List Int) (_hn : zs.length ≤ 1048576) (hlt : p < zs.length) (hgt : 32 < zs.getD p 0)
    (hD : Dc w D ad zs.length cap p d) (hB : Buf w ad g zs) :
    Calls Try.prog 29 #[.pointer (some ⟨D, 0, none⟩)] w fun e w' => e = .returned (.int .u8 (zs.getD (sk zs p) 0)) ∧ Dc w' D ad zs.length cap (sk zs p) d ∧ Below D w w' := by
  have c0 := hD.data
  have c1 := hD.pos
  obtain ⟨ha, hcx, hx0, hx1⟩ := hB p hlt
  obtain ⟨x, hx⟩ : ∃ x : Int, Hid (x = zs.getD p 0) := ⟨_, rfl⟩
  rw [← hx.out] at hcx hx0 hx1 hgt
  have q1 : (p : Int) < (zs.length : Int) := by omega
  have hf : sp x = false := not_sp (by omega) (by omega) (by omega) (by omega)
  have HB : Hid (sk zs p = p) := sk_black zs p hlt (by rw [← hx.out]; exact hf)
  have HX : Hid (x = zs.getD (sk zs p) 0) := by rw [HB.out]; exact hx
  rw [ha] at c0
  clear ha hB hf hx
  go_enter Try.func29, Try.ntmps29
  go_wp2
  go_quiet (fail)
  go_wp2
  go_quiet (fail)
  go_wp2
  go_ret
  exact ⟨by rw [← HX.out]; rfl, by rw [HB.out]; exact hD, below_drewN (below_drewN (Below.refl _ _) _) _⟩

set_option maxHeartbeats 800000 in
theorem peek_white (w : World) (D g cap p : Nat) (ad : Option Addr) (d : Int) (zs : List Int) (hn : zs.length ≤ 1048576) (hp : p ≤ zs.length) (hgD : 0 < zs.length → g < D)
    (hD : Dc w D ad zs.length cap p d) (hB : Buf w ad g zs) (hlt : p < zs.length) (hle : zs.getD p 0 ≤ 32) :
    Calls Try.prog 29 #[.pointer (some ⟨D, 0, none⟩)] w fun e w' => e = .returned (.int .u8 (zs.getD (sk zs p) 0)) ∧ Dc w' D ad zs.length cap (sk zs p) d ∧ Below D w w' := by
  have c0 := hD.data
  have c1 := hD.pos
  have hskl := sk_le zs p hp
  obtain ⟨ha, hcx, hx0, hx1⟩ := hB p hlt
  obtain ⟨x, hx⟩ : ∃ x : Int, Hid (x = zs.getD p 0) := ⟨_, rfl⟩
  rw [← hx.out] at hcx hx0 hx1 hle
  have q1 : (p : Int) < (zs.length : Int) := by omega
  have hgt' : decide (32 < x) = false := by simpa using hle
  rw [ha] at c0
  clear ha hx
  have HB : Hid (Buf w ad g zs) := hB
  clear hB
  obtain ⟨v, hv⟩ : ∃ v : Int, Hid (v = zs.getD (sk zs p) 0) := ⟨_, rfl⟩
  by_cases hend : sk zs p = zs.length
  · have t1 : ((sk zs p : Int) == (zs.length : Int)) = true := by rw [hend]; simp
    have HE : Hid (zs.getD (sk zs p) 0 = 0) := by rw [hend]; show zs.getD zs.length 0 = 0; simp
    clear hend
    go_enter Try.func29, Try.ntmps29
    go_wp2
    go_quiet (fail)
    go_wp2_with (go_at_call 34; refine (skip_any _ D g cap p ad d zs hn hp hgD (by exact hD) (by exact HB.out)).mono ?_; rintro e w2 ⟨rfl, hD2, hb1⟩; have hb2 : Below D w w2 := drawn_out hb1; clear hb1; have d0 := hD2.data; have d1 := hD2.pos)
    go_quiet (fail)
    go_wp2
    go_ret
    exact ⟨by rw [HE.out]; rfl, hD2, below_drewN hb2 _⟩
  · have hin : sk zs p < zs.length := by omega
    have t1 : ((sk zs p : Int) == (zs.length : Int)) = false := by simp; omega
    clear hend
    go_enter Try.func29, Try.ntmps29
    go_wp2
    go_quiet (fail)
    go_wp2_with (go_at_call 34; refine (skip_any _ D g cap p ad d zs hn hp hgD (by exact hD) (by exact HB.out)).mono ?_; rintro e w2 ⟨rfl, hD2, hb1⟩; have hb2 : Below D w w2 := drawn_out hb1; clear hb1; have d0 := hD2.data; have d1 := hD2.pos)
    have hB2 := (HB.out.below hb2 hgD) (sk zs p) hin
    obtain ⟨hb3, hcx2, -, -⟩ := hB2
    rw [hb3] at d0
    clear hb3
    rw [← hv.out] at hcx2
    go_quiet (fail)
    go_wp2
    go_quiet (fail)
    go_wp2
    go_ret
    exact ⟨by rw [← hv.out]; rfl, hD2, below_drewN (below_drewN hb2 _) _⟩

set_option maxHeartbeats 800000 in
theorem peek_end (w : World) (D g cap : Nat) (ad : Option Addr) (d : Int) (zs : List Int) (hn : zs.length ≤ 1048576) (hgD : 0 < zs.length → g < D)
    (hD : Dc w D ad zs.length cap zs.length d) (hB : Buf w ad g zs) :
    Calls Try.prog 29 #[.pointer (some ⟨D, 0, none⟩)] w fun e w' => e = .returned (.int .u8 0) ∧ Dc w' D ad zs.length cap zs.length d ∧ Below D w w' := by
  have c0 := hD.data
  have c1 := hD.pos
  have HB : Hid (Buf w ad g zs) := hB
  have HE : Hid (sk zs zs.length = zs.length) := sk_end zs
  clear hB
  go_enter Try.func29, Try.ntmps29
  go_wp2
  go_quiet (fail)
  go_wp2_with (go_at_call 34; refine (skip_any _ D g cap zs.length ad d zs hn (Nat.le_refl _) hgD (by exact hD) (by exact HB.out)).mono ?_; rintro e w2 ⟨rfl, hD1, hb1⟩; have hb2 : Below D w w2 := drawn_out hb1; have hD2 : Dc w2 D ad zs.length cap zs.length d := (by rw [HE.out] at hD1; exact hD1); clear hb1 hD1; have d0 := hD2.data; have d1 := hD2.pos)
  go_quiet (fail)
  go_wp2
  go_ret
  exact ⟨rfl, hD2, below_drewN hb2 _⟩

/-- peek, wherever it stands. -/
theorem peek_any (w : World) (D g cap p : Nat) (ad : Option Addr) (d : Int) (zs : List Int) (hn : zs.length ≤ 1048576) (hp : p ≤ zs.length) (hgD : 0 < zs.length → g < D)
    (hD : Dc w D ad zs.length cap p d) (hB : Buf w ad g zs) :
    Calls Try.prog 29 #[.pointer (some ⟨D, 0, none⟩)] w fun e w' => e = .returned (.int .u8 (zs.getD (sk zs p) 0)) ∧ Dc w' D ad zs.length cap (sk zs p) d ∧ Below D w w' := by
  by_cases hlt : p < zs.length
  · by_cases hgt : 32 < zs.getD p 0
    · exact peek_fast w D g cap p ad d zs hn hlt hgt hD hB
    · exact peek_white w D g cap p ad d zs hn hp hgD hD hB hlt (by omega)
  · obtain rfl : p = zs.length := by omega
    rw [sk_end, show zs.getD zs.length 0 = 0 by simp]
    exact peek_end w D g cap ad d zs hn hgD hD hB
end Go.Proofs.Qxb6602928a.Peek
