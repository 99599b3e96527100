import Derived.Test.Qxb6602928aNumModel
namespace Go.Proofs.Qxb6602928a.Num
open Go.ChangeShapes Go.WideShapes Go.ChangeAt Go.RowKit
open Clone Decoder

/-- The decoder stands at p; below it nothing has turned since w0; its data read as zs. -/
def St (w0 : World) (D g cap : Nat) (ad : Option Addr) (d : Int) (zs : List Int) (w : World) (p : Nat) : Prop :=
  Dc w D ad zs.length cap p d ∧ Below D w0 w ∧ Buf w ad g zs ∧ (0 < zs.length → g < D)

section
variable {w0 w : World} {D g cap p : Nat} {ad : Option Addr} {d : Int} {zs : List Int}
theorem St.drewN (h : St w0 D g cap ad d zs w p) (k : Nat) : St w0 D g cap ad d zs (w.drewN k) p := ⟨h.1, below_drewN h.2.1 k, h.2.2.1, h.2.2.2⟩
theorem St.moved (h : St w0 D g cap ad d zs w p) (q : Nat) : St w0 D g cap ad d zs (w.setCell ⟨D, 1, none⟩ (.int .i64 q)) q :=
  ⟨h.1.moved _, h.2.1.setCell (Nat.le_refl _) _, h.2.2.1.below ((Below.refl D w).setCell (Nat.le_refl _) _) h.2.2.2, h.2.2.2⟩
end

set_option maxHeartbeats 800000 in
theorem at_true (w0 w : World) (D g cap p : Nat) (ad : Option Addr) (d : Int) (zs : List Int) (c : Int)
    (hS : St w0 D g cap ad d zs w p) (h : atB zs p c = true) :
    Calls Try.prog 32 #[.pointer (some ⟨D, 0, none⟩), .int .u8 c] w fun e w' => e = .returned (.bool true) ∧ St w0 D g cap ad d zs w' p := by
  have c0 := hS.1.data
  have c1 := hS.1.pos
  obtain ⟨hl, hc⟩ := at_in h
  obtain ⟨ha, hcx, -, -⟩ := Buf.nth hS.2.2.1 p hl
  rw [hc] at hcx
  rw [ha] at c0
  have q1 : (p : Int) < (zs.length : Int) := by omega
  clear h hc ha
  go_enter Try.func32, Try.ntmps32
  go_wp2
  go_quiet (fail)
  go_wp2
  go_ret
  exact ⟨rfl, hS.drewN _⟩

set_option maxHeartbeats 800000 in
theorem at_false (w0 w : World) (D g cap p : Nat) (ad : Option Addr) (d : Int) (zs : List Int) (c : Int)
    (hS : St w0 D g cap ad d zs w p) (hp : p ≤ zs.length) (h : atB zs p c = false) :
    Calls Try.prog 32 #[.pointer (some ⟨D, 0, none⟩), .int .u8 c] w fun e w' => e = .returned (.bool false) ∧ St w0 D g cap ad d zs w' p := by
  have c0 := hS.1.data
  have c1 := hS.1.pos
  by_cases hl : p < zs.length
  · obtain ⟨ha, hcx, -, -⟩ := Buf.nth hS.2.2.1 p hl
    obtain ⟨x, hx⟩ : ∃ x : Int, Hid (x = nth zs p) := ⟨_, rfl⟩
    rw [← hx.out] at hcx
    have hne : (x == c) = false := by
      by_cases e : x = c
      · exfalso; rw [at_of hl (hx.out.symm.trans e)] at h; cases h
      · simpa using e
    rw [ha] at c0
    have q1 : (p : Int) < (zs.length : Int) := by omega
    clear h ha hx
    go_enter Try.func32, Try.ntmps32
    go_wp2
    go_quiet (fail)
    go_wp2
    go_ret
    exact ⟨rfl, hS.drewN _⟩
  · obtain rfl : p = zs.length := by omega
    clear h hl
    go_enter Try.func32, Try.ntmps32
    go_wp2
    go_quiet (fail)
    go_wp2
    go_ret
    exact ⟨rfl, hS.drewN _⟩

/-- at, whatever stands there. -/
theorem at_any (w0 w : World) (D g cap p : Nat) (ad : Option Addr) (d : Int) (zs : List Int) (c : Int)
    (hS : St w0 D g cap ad d zs w p) (hp : p ≤ zs.length) (b : Bool) (h : atB zs p c = b) :
    Calls Try.prog 32 #[.pointer (some ⟨D, 0, none⟩), .int .u8 c] w fun e w' => e = .returned (.bool b) ∧ St w0 D g cap ad d zs w' p := by
  cases b with
  | true => exact at_true w0 w D g cap p ad d zs c hS h
  | false => exact at_false w0 w D g cap p ad d zs c hS hp h
end Go.Proofs.Qxb6602928a.Num
