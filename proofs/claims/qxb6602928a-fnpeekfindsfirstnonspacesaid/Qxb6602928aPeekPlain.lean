import Derived.Test.Qxb6602928aDecoder
namespace Go.Proofs.Qxb6602928a.Peek

/-- JSON's white space. -/
def sp (c : Int) : Bool := c == 32 || (c == 9 || (c == 10 || c == 13))

/-- How many white bytes a list begins with. -/
def lead : List Int → Nat
  | [] => 0
  | c :: l => if sp c then lead l + 1 else 0

/-- The first place at or behind p whose byte is not white; else the end. -/
def sk (zs : List Int) (p : Nat) : Nat := p + lead (zs.drop p)

theorem lead_le (l : List Int) : lead l ≤ l.length := by
  induction l with
  | nil => simp [lead]
  | cons c l ih => simp only [lead, List.length_cons]; split <;> omega

theorem sk_le (zs : List Int) (p : Nat) (h : p ≤ zs.length) : p ≤ sk zs p ∧ sk zs p ≤ zs.length := by
  have := lead_le (zs.drop p)
  simp at this
  unfold sk; omega

theorem drop_cons (zs : List Int) (p : Nat) (h : p < zs.length) : zs.drop p = zs.getD p 0 :: zs.drop (p + 1) := by
  rw [List.drop_eq_getElem_cons h]
  simp [h]

theorem sk_white (zs : List Int) (p : Nat) (h : p < zs.length) (hs : sp (zs.getD p 0) = true) : sk zs (p + 1) = sk zs p := by
  unfold sk
  rw [drop_cons zs p h, lead, if_pos hs]
  omega

theorem sk_black (zs : List Int) (p : Nat) (h : p < zs.length) (hs : sp (zs.getD p 0) = false) : sk zs p = p := by
  unfold sk
  rw [drop_cons zs p h, lead, if_neg (by rw [hs]; decide)]
  omega

theorem sk_end (zs : List Int) : sk zs zs.length = zs.length := by
  simp [sk, lead]

theorem not_sp {c : Int} (h1 : ¬ c = 32) (h2 : ¬ c = 9) (h3 : ¬ c = 10) (h4 : ¬ c = 13) : sp c = false := by simp [sp, h1, h2, h3, h4]
end Go.Proofs.Qxb6602928a.Peek
