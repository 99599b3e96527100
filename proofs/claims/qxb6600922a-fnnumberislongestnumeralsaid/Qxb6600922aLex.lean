import Derived.Test.Qxb6600922aModel
import Derived.Deep.QuietTactic
import Derived.BigQuiet
import Derived.WalkSmall
namespace Go.Proofs.Qxb6600922a.Lexer
open Go.ChangeShapes Go.WideShapes Go.ChangeAt Go.RowKit
open Plain Model

/-- The lexer in block D: its text, its place. -/
def Lx (w : World) (D : Nat) (s : ByteArray) (p : Int) : Prop :=
  w.heap[D]? = some (.cells #[.string s, .int .i64 p, .int .i64 0, .int .i64 0, .int .i64 0] 29 (0, 0))
/-- It stands at p; below it nothing has turned since w0. -/
def St (w0 : World) (D : Nat) (s : ByteArray) (w : World) (p : Nat) : Prop := Lx w D s p ∧ Below D w0 w

section
variable {w0 w : World} {D p : Nat} {s : ByteArray}
theorem St.src (h : St w0 D s w p) : w.cell? ⟨D, 0, none⟩ = some (.string s) := by have := h.1; unfold Lx at this; simp [World.cell?, this]
theorem St.pos (h : St w0 D s w p) : w.cell? ⟨D, 1, none⟩ = some (.int .i64 p) := by have := h.1; unfold Lx at this; simp [World.cell?, this]
theorem St.free (h : St w0 D s w p) (j : Nat) : w.frozen? ⟨D, j, none⟩ = false := frozen_of_row w D j _ 29 h.1
theorem St.drewN (h : St w0 D s w p) (k : Nat) : St w0 D s (w.drewN k) p := ⟨h.1, below_drewN h.2 k⟩
theorem St.moved (h : St w0 D s w p) (q : Nat) : St w0 D s (w.setCell ⟨D, 1, none⟩ (.int .i64 q)) q := by
  refine ⟨?_, h.2.setCell (Nat.le_refl _) _⟩
  have h1 := h.1
  unfold Lx at h1 ⊢
  simp [World.setCell, Array.getElem?_modify, h1]
theorem St.next (h : St w0 D s w p) : St w0 D s (w.setCell ⟨D, 1, none⟩ (.int .i64 ((p : Int) + 1))) (p + 1) := by
  have := h.moved (p + 1)
  simpa using this
end

set_option maxHeartbeats 400000 in
theorem dig_true (c : Int) (h1 : 48 ≤ c) (h2 : c ≤ 57) (w : World) : Calls Try.prog 18 #[.int .u8 c] w fun e w' => e = .returned (.bool true) ∧ w' = w := by
  go_enter Try.func18, Try.ntmps18
  go_wp2
  go_ret
  exact ⟨rfl, rfl⟩
set_option maxHeartbeats 400000 in
theorem dig_false (c : Int) (h : dgt c = false) (w : World) : Calls Try.prog 18 #[.int .u8 c] w fun e w' => e = .returned (.bool false) ∧ w' = w := by
  by_cases h1 : 48 ≤ c
  · have h2 : ¬ c ≤ 57 := by simp only [dgt, Bool.and_eq_false_iff, decide_eq_false_iff_not] at h; omega
    clear h
    go_enter Try.func18, Try.ntmps18
    go_wp2
    go_ret
    exact ⟨rfl, rfl⟩
  · clear h
    go_enter Try.func18, Try.ntmps18
    go_wp2
    go_ret
    exact ⟨rfl, rfl⟩

theorem hid_of {p : Prop} (h : p) : Hid p := h

/-- A block of a body, by its number. -/
def findBlock (n : Nat) : Code → Option Code
  | .block m c => if m = n then some (.block m c) else findBlock n c
  | .seq a b => match findBlock n a with
    | some c => some c
    | none => findBlock n b
  | .loop c => findBlock n c
  | .scope c => findBlock n c
  | .cond _ a b => match findBlock n a with
    | some c => some c
    | none => findBlock n b
  | _ => none
/-- A region of a body, by its number. -/
def findRegion (n : Nat) : Code → Option Code
  | .region m ops d => if m = n then some (.region m ops d) else none
  | .block _ c => findRegion n c
  | .seq a b => match findRegion n a with
    | some c => some c
    | none => findRegion n b
  | .loop c => findRegion n c
  | .scope c => findRegion n c
  | .cond _ a b => match findRegion n a with
    | some c => some c
    | none => findRegion n b
  | _ => none
def isTmp (n : Nat) : Operand → Bool
  | .tmp m => m == n
  | _ => false
/-- An if of a body, by the slot of its test. -/
def findIf (n : Nat) : Code → Option Code
  | .block _ c => findIf n c
  | .seq a b => match findIf n a with
    | some c => some c
    | none => findIf n b
  | .loop c => findIf n c
  | .scope c => findIf n c
  | .cond o a b => if isTmp n o then some (.cond o a b) else match findIf n a with
    | some c => some c
    | none => findIf n b
  | _ => none
end Go.Proofs.Qxb6600922a.Lexer
