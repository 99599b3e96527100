import Derived.Test.Qxb6602928aPeek
namespace Go.Proofs.Qxb6602928a.Peek
open Go.ChangeShapes Go.WideShapes Go.ChangeAt Go.RowKit
open Clone Decoder

set_option maxHeartbeats 400000 in
theorem space_true (x : Int) (h : sp x = true) (w : World) : Calls Try.prog 28 #[.int .u8 x] w fun e w' => e = .returned (.bool true) ∧ w = w' := by
  have hor : x = 32 ∨ x = 9 ∨ x = 10 ∨ x = 13 := by
    simp only [sp, Bool.or_eq_true, beq_iff_eq] at h; exact h
  clear h
  rcases hor with rfl | rfl | rfl | rfl
  all_goals
    go_enter Try.func28, Try.ntmps28
    go_wp2
    go_ret
    exact ⟨rfl, rfl⟩

set_option maxHeartbeats 400000 in
theorem space_false (x : Int) (hf : sp x = false) (w : World) : Calls Try.prog 28 #[.int .u8 x] w fun e w' => e = .returned (.bool false) ∧ w = w' := by
  have e1 : (x == 32) = false := by simp only [sp, Bool.or_eq_false_iff] at hf; exact hf.1
  have e2 : (x == 9) = false := by simp only [sp, Bool.or_eq_false_iff] at hf; exact hf.2.1
  have e3 : (x == 10) = false := by simp only [sp, Bool.or_eq_false_iff] at hf; exact hf.2.2.1
  have e4 : (x == 13) = false := by simp only [sp, Bool.or_eq_false_iff] at hf; exact hf.2.2.2
  clear hf
  go_enter Try.func28, Try.ntmps28
  go_wp2
  go_ret
  exact ⟨rfl, rfl⟩

set_option maxHeartbeats 800000 in
theorem model_some (w : World) (g cap p : Nat) (zs : List Int) (hn : zs.length ≤ 1048576) (hp : p ≤ zs.length)
    (hB : Buf w (some ⟨g, 0, none⟩) g zs) (v : Int) (hv : Hid (v = zs.getD (sk zs p) 0)) :
    Calls Try.prog 18 #[.slice (some ⟨g, 0, none⟩) zs.length cap, .int .i64 p] w fun e w' => e = .returned (.tuple #[.int .u8 v, .int .i64 (sk zs p)]) ∧ w = w' := by
  go_enter Try.func18, Try.ntmps18
  go_wp2
  go_loop [6, 7] (fun f i => ∃ z : Int, ∃ q : Nat, Hid (z + 1 = q) ∧ -1 ≤ z ∧ p ≤ q ∧ q ≤ zs.length ∧ z < zs.length ∧ i = .int .i64 z ∧ f = .int .i64 (sk zs q)) (fun _ i => (intOf i + 1).toNat)
  case atStart => exact ⟨(zs.length : Int) - 1, zs.length, by show _ = _; omega, by omega, hp, Nat.le_refl _, by omega, rfl, by rw [sk_end]⟩
  case round =>
    obtain ⟨z, q, hz, hz0, hpq, hq, hzn, rfl, rfl⟩ := hrel
    by_cases hlt : p < q
    · obtain ⟨r, rfl⟩ : ∃ r, q = r + 1 := ⟨q - 1, by omega⟩
      have hzr : z = r := by have := hz.out; omega
      have hr : r < zs.length := by omega
      obtain ⟨-, hcx, hx0, hx1⟩ := hB r hr
      obtain ⟨x, hx⟩ : ∃ x : Int, Hid (x = zs.getD r 0) := ⟨_, rfl⟩
      rw [← hx.out] at hcx hx0 hx1
      have hcz : w.cell? ⟨g, z.toNat, none⟩ = some (.int .u8 x) := by rw [hzr]; simpa using hcx
      have z1 : 0 ≤ z := by omega
      have z2 : (p : Int) ≤ z := by omega
      clear hB hcx
      cases hs : sp x with
      | true =>
        have HW : Hid (sk zs (r + 1) = sk zs r) := sk_white zs r hr (by rw [← hx.out]; exact hs)
        have HZ : Hid (z = r ∧ sp x = true) := ⟨hzr, hs⟩
        clear hzr hs
        go_wp2_with (go_at_call 28; refine (space_true x HZ.out.2 _).mono ?_; rintro e w2 ⟨rfl, rfl⟩)
        go_round
        case rel => exact ⟨z - 1, r, by show _ = _; have := HZ.out.1; omega, by omega, by omega, by omega, by omega, rfl, by rw [HW.out]⟩
        case measure => simp [intOf]; omega
      | false =>
        have HW : Hid (sk zs r = r) := sk_black zs r hr (by rw [← hx.out]; exact hs)
        have HZ : Hid (z = r ∧ sp x = false) := ⟨hzr, hs⟩
        clear hzr hs
        go_wp2_with (go_at_call 28; refine (space_false x HZ.out.2 _).mono ?_; rintro e w2 ⟨rfl, rfl⟩)
        go_round
        case rel => exact ⟨z - 1, r, by show _ = _; have := HZ.out.1; omega, by omega, by omega, by omega, by omega, rfl, by rw [HW.out, HZ.out.1]⟩
        case measure => simp [intOf]; omega
    · obtain rfl : q = p := by omega
      have z2 : ¬ (q : Int) ≤ z := by have := hz.out; omega
      have hskl := sk_le zs q hp
      by_cases hend : sk zs q = zs.length
      · have t1 : ((sk zs q : Int) == (zs.length : Int)) = true := by rw [hend]; simp
        have HE : v = 0 := by rw [hv.out, hend]; show zs.getD zs.length 0 = 0; simp
        subst HE
        clear hend hB
        go_wp2
        go_ret2
        exact ⟨rfl, rfl⟩
      · have hin : sk zs q < zs.length := by omega
        have t1 : ((sk zs q : Int) == (zs.length : Int)) = false := by simp; omega
        obtain ⟨-, hcx, -, -⟩ := hB (sk zs q) hin
        rw [← hv.out] at hcx
        clear hend hB
        go_wp2
        go_ret2
        exact ⟨rfl, rfl⟩

set_option maxHeartbeats 400000 in
theorem model_nil (w : World) : Calls Try.prog 18 #[.slice none 0 0, .int .i64 0] w fun e w' => e = .returned (.tuple #[.int .u8 0, .int .i64 0]) ∧ w = w' := by
  go_enter Try.func18, Try.ntmps18
  go_wp2
  refine wp_loop_rounds 1 ?_
  rw [rounds_succ]
  go_wp2
  go_ret2
  exact ⟨rfl, rfl⟩

set_option maxHeartbeats 800000 in
theorem zz_any (w : World) (g cap p : Nat) (ad : Option Addr) (d : Int) (zs : List Int) (hn : zs.length ≤ 1048576) (hp : p ≤ zs.length) (hg : 0 < zs.length → g < w.heap.size)
    (hB : Buf w ad g zs) (v : Int) (hv : Hid (v = zs.getD (sk zs p) 0)) :
    Calls Try.prog 19 #[.slice ad zs.length cap, .int .i64 p, .int .i64 d] w fun e w' => e = .returned (.tuple #[.int .u8 v, .int .i64 (sk zs p), .int .i64 d]) ∧ Below w.heap.size w w' := by
  have hD : Dc (w.alloc (.cells #[.slice ad zs.length cap, .int .i64 p, .int .i64 d] 44)) w.heap.size ad zs.length cap p d := heap_alloc_new w _
  have hb : Below w.heap.size w (w.alloc (.cells #[.slice ad zs.length cap, .int .i64 p, .int .i64 d] 44)) := (Below.refl _ _).alloc (Nat.le_refl _) _
  have HB : Hid (Buf (w.alloc (.cells #[.slice ad zs.length cap, .int .i64 p, .int .i64 d] 44)) ad g zs) := hB.below hb hg
  have HD := hD
  have HD' : Hid (Dc (w.alloc (.cells #[.slice ad zs.length cap, .int .i64 p, .int .i64 d] 44)) w.heap.size ad zs.length cap p d) := hD
  clear hB hD HD
  go_enter Try.func19, Try.ntmps19
  go_wp2_with (go_at_call 29; refine (peek_any _ w.heap.size g cap p ad d zs hn hp hg HD'.out HB.out).mono ?_; rintro e w2 ⟨rfl, hD2, hb2⟩; rw [← hv.out]; have d0 := hD2.data; have d1 := hD2.pos; have d2 := hD2.depth)
  go_quiet (fail)
  go_wp2
  go_ret3
  exact ⟨rfl, below_drewN (hb.trans hb2) _⟩
end Go.Proofs.Qxb6602928a.Peek
