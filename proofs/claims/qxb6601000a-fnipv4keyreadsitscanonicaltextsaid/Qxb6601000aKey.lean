import Derived.Test.Qxb6601000aKeyPlain
import Derived.WalkKit
import Derived.WalkSpells
import Derived.ProofKit
import Derived.OpenShut
namespace Go.Proofs.Qxb6601000a.Key
open Go.ChangeShapes Go.WideShapes Go.ChangeAt Go.RowKit
open Dec Dotted

theorem ret_pair {k : IntKind} {a b : Int} {c : Bool} (h : a = b) : Ending.returned (.tuple #[.int k a, .bool c]) = .returned (.tuple #[.int k b, .bool c]) := by rw [h]

set_option maxHeartbeats 1600000 in
theorem key_reads (a : Int) (h0 : 0 ≤ a) (h1 : a ≤ 4294967295) (s : ByteArray) (hs : Hid (s = strOfNums (pre a 4))) (hsz : s.size ≤ 1000) (w : World) :
    Calls Try.prog 17 #[.string s] w fun e w' => e = .returned (.tuple #[.int .u32 a, .bool true]) ∧ w' = w := by
  go_enter Try.func17, Try.ntmps17
  go_wp2
  go_loop [4, 5, 6] (fun ad i d => ∃ j k : Nat, ∃ x : Int, j ≤ 3 ∧ d = .int .i64 j ∧ i = .int .i64 k ∧ ad = .int .u32 x ∧ Hid (k = (pre a j).length) ∧ Hid (x = val a j)) (fun _ _ d => (4 - intOf d).toNat)
  case atStart => exact ⟨0, 0, 0, by omega, rfl, rfl, rfl, rfl, rfl⟩
  case round =>
    obtain ⟨j, k, x, hj, rfl, rfl, rfl, hk, hx⟩ := hrel
    obtain ⟨v, hv⟩ : ∃ v, Hid (v = byt a j) := ⟨_, rfl⟩
    have hval : Hid (val a (j + 1) = x * 256 + v) := by
      have := (val_succ a h0 h1 j hj).1
      rw [← hx.out, ← hv.out] at this; exact this
    have hx0 : 0 ≤ x := by rw [hx.out]; exact (val_succ a h0 h1 j hj).2.1
    have hx1 : x < 16777216 := by rw [hx.out]; exact (val_succ a h0 h1 j hj).2.2
    have hF := facts a h0 h1 j hj s hs.out k hk.out v hv.out
    clear hv hk hx hs
    rcases hF with ⟨b1, b2, A0, hst⟩ | ⟨b1, b2, A0, A1, hst⟩ | ⟨b1, b2, A0, A1, A2, hst⟩
    · by_cases hz : v = 0
      · rcases hst with ⟨hj3, A1, hst⟩ | ⟨hj3, hst⟩
        · obtain ⟨l0, A0⟩ := A0
          obtain ⟨c0, hc0⟩ : ∃ c : Nat, (s[k]'l0).toNat = c := ⟨_, rfl⟩
          rw [hc0] at A0
          obtain ⟨l1, A1⟩ := A1
          obtain ⟨c1, hc1⟩ : ∃ c : Nat, (s[k + 1]'l1).toNat = c := ⟨_, rfl⟩
          rw [hc1] at A1
          obtain rfl : c1 = 46 := by omega
          clear A1
          obtain rfl : c0 = 48 := by omega
          have hve : v = 0 := by omega
          subst hve
          clear A0
          have hj3 : (j : Int) < 3 := by omega
          have q0 : (k : Int) < (s.size : Int) := by omega
          go_wp2
          go_round
          have R := or_step x (0) hx0 hx1 (by omega) (by omega)
          case rel => exact ⟨j + 1, k + 1 + 1, _, by omega, by go_num, by go_num, rfl, hst.symm, R.trans (hval.out.symm)⟩
          case measure => simp [intOf]; omega
        · obtain ⟨l0, A0⟩ := A0
          obtain ⟨c0, hc0⟩ : ∃ c : Nat, (s[k]'l0).toNat = c := ⟨_, rfl⟩
          rw [hc0] at A0
          obtain rfl : c0 = 48 := by omega
          have hve : v = 0 := by omega
          subst hve
          clear A0
          subst hj3
          have hend : ((k : Int) + 1 == (s.size : Int)) = true := by simp; omega
          have hend2 : (s.size : Int) = (k : Int) + 1 := by omega
          have hend3 : Hid ((s.size : Int) = (k : Int) + 1) := hend2
          clear hend2
          have q0 : (k : Int) < (s.size : Int) := by omega
          have q1 : (s.size : Int) ≤ (k : Int) + 1 := by have := hend3.out; omega
          go_wp2
          go_ret2
          have R := or_step x (0) hx0 hx1 (by omega) (by omega)
          exact ⟨ret_pair (R.trans (show _ = a from hval.out.symm)), rfl⟩
      · rcases hst with ⟨hj3, A1, hst⟩ | ⟨hj3, hst⟩
        · obtain ⟨l0, A0⟩ := A0
          obtain ⟨c0, hc0⟩ : ∃ c : Nat, (s[k]'l0).toNat = c := ⟨_, rfl⟩
          rw [hc0] at A0
          obtain ⟨l1, A1⟩ := A1
          obtain ⟨c1, hc1⟩ : ∃ c : Nat, (s[k + 1]'l1).toNat = c := ⟨_, rfl⟩
          rw [hc1] at A1
          obtain rfl : c1 = 46 := by omega
          clear A1
          have d0 : (48 : Int) < c0 ∧ (c0 : Int) ≤ 57 := by omega
          have hve : Hid (v = (c0 : Int) - 48) := by show v = _; omega
          have hbd : (c0 : Int) - 48 ≤ 255 := by omega
          clear A0
          have hj3 : (j : Int) < 3 := by omega
          have q0 : (k : Int) < (s.size : Int) := by omega
          by_cases hmn : (k : Int) + 1 + 2 ≤ (s.size : Int)
          all_goals
            go_wp2
            refine wp_loop_rounds 1 ?_
            rw [rounds_succ]
            go_wp2
            go_round
            have R := or_step x ((c0 : Int) - 48) hx0 hx1 (by omega) (by omega)
            case rel => exact ⟨j + 1, k + 1 + 1, _, by omega, by go_num, by go_num, rfl, hst.symm, R.trans (by have h1 := hval.out; have h2 := hve.out; omega)⟩
            case measure => simp [intOf]; omega
        · obtain ⟨l0, A0⟩ := A0
          obtain ⟨c0, hc0⟩ : ∃ c : Nat, (s[k]'l0).toNat = c := ⟨_, rfl⟩
          rw [hc0] at A0
          have d0 : (48 : Int) < c0 ∧ (c0 : Int) ≤ 57 := by omega
          have hve : Hid (v = (c0 : Int) - 48) := by show v = _; omega
          have hbd : (c0 : Int) - 48 ≤ 255 := by omega
          clear A0
          subst hj3
          have hend : ((k : Int) + 1 == (s.size : Int)) = true := by simp; omega
          have hend2 : (s.size : Int) = (k : Int) + 1 := by omega
          have hend3 : Hid ((s.size : Int) = (k : Int) + 1) := hend2
          clear hend2
          have q0 : (k : Int) < (s.size : Int) := by omega
          have q1 : (s.size : Int) ≤ (k : Int) + 1 := by have := hend3.out; omega
          go_wp2
          refine wp_loop_rounds 1 ?_
          rw [rounds_succ]
          go_wp2
          go_ret2
          have R := or_step x ((c0 : Int) - 48) hx0 hx1 (by omega) (by omega)
          exact ⟨ret_pair (R.trans (by have h1 : a = _ := hval.out; have h2 := hve.out; omega)), rfl⟩
    · rcases hst with ⟨hj3, A2, hst⟩ | ⟨hj3, hst⟩
      · obtain ⟨l0, A0⟩ := A0
        obtain ⟨c0, hc0⟩ : ∃ c : Nat, (s[k]'l0).toNat = c := ⟨_, rfl⟩
        rw [hc0] at A0
        obtain ⟨l1, A1⟩ := A1
        obtain ⟨c1, hc1⟩ : ∃ c : Nat, (s[k + 1]'l1).toNat = c := ⟨_, rfl⟩
        rw [hc1] at A1
        obtain ⟨l2, A2⟩ := A2
        obtain ⟨c2, hc2⟩ : ∃ c : Nat, (s[k + 1 + 1]'l2).toNat = c := ⟨_, rfl⟩
        rw [hc2] at A2
        obtain rfl : c2 = 46 := by omega
        clear A2
        have d0 : (48 : Int) < c0 ∧ (c0 : Int) ≤ 57 := by omega
        have d1 : (48 : Int) ≤ c1 ∧ (c1 : Int) ≤ 57 := by omega
        have hve : Hid (v = ((c0 : Int) - 48) * 10 + ((c1 : Int) - 48)) := by show v = _; omega
        have hbd : ((c0 : Int) - 48) * 10 + ((c1 : Int) - 48) ≤ 255 := by omega
        clear A0 A1
        have hj3 : (j : Int) < 3 := by omega
        have q0 : (k : Int) < (s.size : Int) := by omega
        have q1 : (k : Int) + 1 < (s.size : Int) := by omega
        go_wp2
        refine wp_loop_rounds 2 ?_
        rw [rounds_succ]
        go_wp2
        rw [rounds_succ]
        go_wp2
        go_round
        have R := or_step x (((c0 : Int) - 48) * 10 + ((c1 : Int) - 48)) hx0 hx1 (by omega) (by omega)
        case rel => exact ⟨j + 1, k + 1 + 1 + 1, _, by omega, by go_num, by go_num, rfl, hst.symm, R.trans (by have h1 := hval.out; have h2 := hve.out; omega)⟩
        case measure => simp [intOf]; omega
      · obtain ⟨l0, A0⟩ := A0
        obtain ⟨c0, hc0⟩ : ∃ c : Nat, (s[k]'l0).toNat = c := ⟨_, rfl⟩
        rw [hc0] at A0
        obtain ⟨l1, A1⟩ := A1
        obtain ⟨c1, hc1⟩ : ∃ c : Nat, (s[k + 1]'l1).toNat = c := ⟨_, rfl⟩
        rw [hc1] at A1
        have d0 : (48 : Int) < c0 ∧ (c0 : Int) ≤ 57 := by omega
        have d1 : (48 : Int) ≤ c1 ∧ (c1 : Int) ≤ 57 := by omega
        have hve : Hid (v = ((c0 : Int) - 48) * 10 + ((c1 : Int) - 48)) := by show v = _; omega
        have hbd : ((c0 : Int) - 48) * 10 + ((c1 : Int) - 48) ≤ 255 := by omega
        clear A0 A1
        subst hj3
        have hend : ((k : Int) + 1 + 1 == (s.size : Int)) = true := by simp; omega
        have hend2 : (s.size : Int) = (k : Int) + 1 + 1 := by omega
        have hend3 : Hid ((s.size : Int) = (k : Int) + 1 + 1) := hend2
        clear hend2
        have q0 : (k : Int) < (s.size : Int) := by omega
        have q1 : (k : Int) + 1 < (s.size : Int) := by omega
        have q2 : (s.size : Int) ≤ (k : Int) + 1 + 1 := by have := hend3.out; omega
        go_wp2
        refine wp_loop_rounds 2 ?_
        rw [rounds_succ]
        go_wp2
        rw [rounds_succ]
        go_wp2
        go_ret2
        have R := or_step x (((c0 : Int) - 48) * 10 + ((c1 : Int) - 48)) hx0 hx1 (by omega) (by omega)
        exact ⟨ret_pair (R.trans (by have h1 : a = _ := hval.out; have h2 := hve.out; omega)), rfl⟩
    · rcases hst with ⟨hj3, A3, hst⟩ | ⟨hj3, hst⟩
      · obtain ⟨l0, A0⟩ := A0
        obtain ⟨c0, hc0⟩ : ∃ c : Nat, (s[k]'l0).toNat = c := ⟨_, rfl⟩
        rw [hc0] at A0
        obtain ⟨l1, A1⟩ := A1
        obtain ⟨c1, hc1⟩ : ∃ c : Nat, (s[k + 1]'l1).toNat = c := ⟨_, rfl⟩
        rw [hc1] at A1
        obtain ⟨l2, A2⟩ := A2
        obtain ⟨c2, hc2⟩ : ∃ c : Nat, (s[k + 1 + 1]'l2).toNat = c := ⟨_, rfl⟩
        rw [hc2] at A2
        obtain ⟨l3, A3⟩ := A3
        obtain ⟨c3, hc3⟩ : ∃ c : Nat, (s[k + 1 + 1 + 1]'l3).toNat = c := ⟨_, rfl⟩
        rw [hc3] at A3
        obtain rfl : c3 = 46 := by omega
        clear A3
        have d0 : (48 : Int) < c0 ∧ (c0 : Int) ≤ 57 := by omega
        have d1 : (48 : Int) ≤ c1 ∧ (c1 : Int) ≤ 57 := by omega
        have d2 : (48 : Int) ≤ c2 ∧ (c2 : Int) ≤ 57 := by omega
        have hve : Hid (v = (((c0 : Int) - 48) * 10 + ((c1 : Int) - 48)) * 10 + ((c2 : Int) - 48)) := by show v = _; omega
        have hbd : (((c0 : Int) - 48) * 10 + ((c1 : Int) - 48)) * 10 + ((c2 : Int) - 48) ≤ 255 := by omega
        clear A0 A1 A2
        have hj3 : (j : Int) < 3 := by omega
        have hmn : (k : Int) + 1 + 2 ≤ s.size := by omega
        have q0 : (k : Int) < (s.size : Int) := by omega
        have q1 : (k : Int) + 1 < (s.size : Int) := by omega
        have q2 : (k : Int) + 1 + 1 < (s.size : Int) := by omega
        go_wp2
        refine wp_loop_rounds 3 ?_
        rw [rounds_succ]
        go_wp2
        rw [rounds_succ]
        go_wp2
        rw [rounds_succ]
        go_wp2
        go_round
        have R := or_step x ((((c0 : Int) - 48) * 10 + ((c1 : Int) - 48)) * 10 + ((c2 : Int) - 48)) hx0 hx1 (by omega) (by omega)
        case rel => exact ⟨j + 1, k + 1 + 1 + 1 + 1, _, by omega, by go_num, by go_num, rfl, hst.symm, R.trans (by have h1 := hval.out; have h2 := hve.out; omega)⟩
        case measure => simp [intOf]; omega
      · obtain ⟨l0, A0⟩ := A0
        obtain ⟨c0, hc0⟩ : ∃ c : Nat, (s[k]'l0).toNat = c := ⟨_, rfl⟩
        rw [hc0] at A0
        obtain ⟨l1, A1⟩ := A1
        obtain ⟨c1, hc1⟩ : ∃ c : Nat, (s[k + 1]'l1).toNat = c := ⟨_, rfl⟩
        rw [hc1] at A1
        obtain ⟨l2, A2⟩ := A2
        obtain ⟨c2, hc2⟩ : ∃ c : Nat, (s[k + 1 + 1]'l2).toNat = c := ⟨_, rfl⟩
        rw [hc2] at A2
        have d0 : (48 : Int) < c0 ∧ (c0 : Int) ≤ 57 := by omega
        have d1 : (48 : Int) ≤ c1 ∧ (c1 : Int) ≤ 57 := by omega
        have d2 : (48 : Int) ≤ c2 ∧ (c2 : Int) ≤ 57 := by omega
        have hve : Hid (v = (((c0 : Int) - 48) * 10 + ((c1 : Int) - 48)) * 10 + ((c2 : Int) - 48)) := by show v = _; omega
        have hbd : (((c0 : Int) - 48) * 10 + ((c1 : Int) - 48)) * 10 + ((c2 : Int) - 48) ≤ 255 := by omega
        clear A0 A1 A2
        subst hj3
        have hend : ((k : Int) + 1 + 1 + 1 == (s.size : Int)) = true := by simp; omega
        have hend2 : (s.size : Int) = (k : Int) + 1 + 1 + 1 := by omega
        have hend3 : Hid ((s.size : Int) = (k : Int) + 1 + 1 + 1) := hend2
        clear hend2
        have hmn : (k : Int) + 1 + 2 ≤ s.size := by omega
        have q0 : (k : Int) < (s.size : Int) := by omega
        have q1 : (k : Int) + 1 < (s.size : Int) := by omega
        have q2 : (k : Int) + 1 + 1 < (s.size : Int) := by omega
        have q3 : (s.size : Int) ≤ (k : Int) + 1 + 1 + 1 := by have := hend3.out; omega
        go_wp2
        refine wp_loop_rounds 3 ?_
        rw [rounds_succ]
        go_wp2
        rw [rounds_succ]
        go_wp2
        rw [rounds_succ]
        go_wp2
        go_ret2
        have R := or_step x ((((c0 : Int) - 48) * 10 + ((c1 : Int) - 48)) * 10 + ((c2 : Int) - 48)) hx0 hx1 (by omega) (by omega)
        exact ⟨ret_pair (R.trans (by have h1 : a = _ := hval.out; have h2 := hve.out; omega)), rfl⟩
end Go.Proofs.Qxb6601000a.Key
