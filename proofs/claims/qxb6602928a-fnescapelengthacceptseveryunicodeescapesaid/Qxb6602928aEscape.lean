import Derived.Test.Qxb6602928aClone
namespace Go.Proofs.Qxb6602928a.Escape
open Go.ChangeShapes Go.WideShapes Go.ChangeAt Go.RowKit
open Clone

def isHex (c : Int) : Prop := (48 ≤ c ∧ c ≤ 57) ∨ (97 ≤ c ∧ c ≤ 102) ∨ (65 ≤ c ∧ c ≤ 70)

set_option maxHeartbeats 400000 in
theorem hex_any (n : Int) (up : Bool) (h0 : 0 ≤ n) (h1 : n ≤ 15) (w : World) :
    Calls Try.prog 22 #[.int .i64 n, .bool up] w fun e w' => ∃ c : Int, e = .returned (.int .u8 c) ∧ isHex c ∧ w' = w := by
  by_cases hn : n < 10
  · go_enter Try.func22, Try.ntmps22
    go_wp2
    go_ret
    exact ⟨_, rfl, by unfold isHex; omega, rfl⟩
  · cases up
    · go_enter Try.func22, Try.ntmps22
      go_wp2
      go_ret
      exact ⟨_, rfl, by unfold isHex; omega, rfl⟩
    · go_enter Try.func22, Try.ntmps22
      go_wp2
      go_ret
      exact ⟨_, rfl, by unfold isHex; omega, rfl⟩

set_option maxHeartbeats 400000 in
theorem esc_short (g n cap : Nat) (h1 : 1 ≤ n) (h2 : n < 5) (w : World) (hu : w.cell? ⟨g, 0, none⟩ = some (.int .u8 117)) :
    Calls Try.prog 23 #[.slice (some ⟨g, 0, none⟩) n cap] w fun e w' => e = .returned (.int .i64 0) ∧ w' = w := by
  have q1 : ((n : Int) == 0) = false := by simp; omega
  have q2 : (n : Int) < 5 := by omega
  go_enter Try.func23, Try.ntmps23
  go_wp2
  go_ret
  exact ⟨rfl, rfl⟩

set_option maxHeartbeats 800000 in
theorem esc_long (g n cap : Nat) (h1 : 5 ≤ n) (h2 : n ≤ cap) (h3 : cap ≤ 100000000) (w : World) (hu : w.cell? ⟨g, 0, none⟩ = some (.int .u8 117))
    (hx : ∀ k, k < 4 → ∃ c, w.cell? ⟨g, 1 + k, none⟩ = some (.int .u8 c) ∧ isHex c) :
    Calls Try.prog 23 #[.slice (some ⟨g, 0, none⟩) n cap] w fun e w' => e = .returned (.int .i64 5) ∧ w' = w := by
  have q1 : ((n : Int) == 0) = false := by simp; omega
  have q2 : ¬ (n : Int) < 5 := by omega
  go_enter Try.func23, Try.ntmps23
  go_wp2
  go_loop [28] (fun i => ∃ k : Nat, k ≤ 4 ∧ i = .int .i64 k) (fun i => 4 - (intOf i).toNat)
  case atStart => exact ⟨0, by omega, rfl⟩
  case round =>
    obtain ⟨k, hk, rfl⟩ := hrel
    by_cases hlt : k < 4
    · obtain ⟨c, hc, hh⟩ := hx k hlt
      clear hx
      rcases hh with ⟨e1, e2⟩ | ⟨e1, e2⟩ | ⟨e1, e2⟩
      all_goals
        go_wp2
        go_round
        case rel => exact ⟨k + 1, by omega, by go_num⟩
        case measure => simp [intOf]; omega
    · clear hx
      go_wp2
      go_ret
      exact ⟨rfl, rfl⟩
end Go.Proofs.Qxb6602928a.Escape
