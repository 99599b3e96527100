import Derived.Test.Qxb6602928aNumAt
namespace Go.Proofs.Qxb6602928a.Num
open Go.ChangeShapes Go.WideShapes Go.ChangeAt Go.RowKit
open Clone Decoder

set_option maxHeartbeats 1600000 in
theorem digits_any (w0 w : World) (D g cap p : Nat) (ad : Option Addr) (d : Int) (zs : List Int) (hn : zs.length ≤ 1048576)
    (hS : St w0 D g cap ad d zs w p) (hp : p ≤ zs.length) (b : Bool) (h : Hid (decide (p < dg zs p) = b)) :
    Calls Try.prog 33 #[.pointer (some ⟨D, 0, none⟩)] w fun e w' => e = .returned (.bool b) ∧ St w0 D g cap ad d zs w' (dg zs p) := by
  have c1 := hS.1.pos
  go_enter Try.func33, Try.ntmps33
  go_wp2
  go_loopg [] (zs.length - p) (fun k wr => ∃ q : Nat, q ≤ zs.length ∧ Hid (k = zs.length - q ∧ dg zs q = dg zs p) ∧ St w0 D g cap ad d zs wr q)
  case atStart => exact ⟨p, hp, ⟨rfl, rfl⟩, hS⟩
  case round =>
    clear c1 hS
    obtain ⟨q, hq, HS, hS⟩ := hrel
    have c0 := hS.1.data
    have c1 := hS.1.pos
    have c2 := hS.1.free 1
    have fin : q = dg zs q → decide (p < q) = b ∧ q = dg zs p := by
      intro e
      have e2 := HS.out.2
      rw [← e] at e2
      refine ⟨?_, e2⟩
      rw [← h.out, ← e2]
    by_cases hlt : q < zs.length
    · obtain ⟨ha, hcx, hx0, hx1⟩ := Buf.nth hS.2.2.1 q hlt
      obtain ⟨x, hx⟩ : ∃ x : Int, Hid (x = nth zs q) := ⟨_, rfl⟩
      rw [← hx.out] at hcx hx0 hx1
      rw [ha] at c0
      clear ha
      have q1 : (q : Int) < (zs.length : Int) := by omega
      by_cases h48 : 48 ≤ x
      · by_cases h57 : x ≤ 57
        · have HY : Hid (dg zs (q + 1) = dg zs q) := dg_yes zs q hlt (by rw [← hx.out]; simp [dgt, h48, h57])
          clear fin hx
          go_wp2
          go_quiet (fail)
          go_wp2
          go_roundg (zs.length - (q + 1))
          case measure => have := HS.out.1; omega
          case rel => exact ⟨q + 1, by omega, ⟨rfl, HY.out.trans HS.out.2⟩, (hS.drewN _).moved (q + 1)⟩
        · have HN := dg_no zs q hlt (by rw [← hx.out]; simp [dgt, h57])
          obtain ⟨f1, f2⟩ := fin HN.symm
          have F2 : Hid (q = dg zs p) := f2
          have k57 : decide (x ≤ 57) = false := by simpa using h57
          clear fin hx HN f2
          go_wp2
          go_quiet (fail)
          go_wp2
          go_ret
          exact ⟨rfl, by rw [← F2.out]; exact hS.drewN _⟩
      · have HN := dg_no zs q hlt (by rw [← hx.out]; simp [dgt, h48])
        obtain ⟨f1, f2⟩ := fin HN.symm
        have F2 : Hid (q = dg zs p) := f2
        have k48 : decide (48 ≤ x) = false := by simpa using h48
        clear fin hx HN f2
        go_wp2
        go_quiet (fail)
        go_wp2
        go_ret
        exact ⟨rfl, by rw [← F2.out]; exact hS.drewN _⟩
    · obtain rfl : q = zs.length := by omega
      obtain ⟨f1, f2⟩ := fin (dg_end zs).symm
      have F2 : Hid (zs.length = dg zs p) := f2
      clear fin f2 hlt
      go_wp2
      go_quiet (fail)
      go_wp2
      go_ret
      exact ⟨rfl, by rw [← F2.out]; exact hS.drewN _⟩
end Go.Proofs.Qxb6602928a.Num
