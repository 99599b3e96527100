import Derived.Test.Qxb6602928aDecoder
namespace Go.Proofs.Qxb6602928a.Num

/-- The byte at place p (0 behind the end), behind a name of its own. -/
def nth (zs : List Int) (p : Nat) : Int := zs.getD p 0
/-- The byte at place p is c. -/
def atB (zs : List Int) (p : Nat) (c : Int) : Bool := zs[p]? == some c
/-- A digit. -/
def dgt (c : Int) : Bool := decide (48 ≤ c) && decide (c ≤ 57)
/-- How many digits a list begins with. -/
def dl : List Int → Nat
  | [] => 0
  | c :: l => if dgt c then dl l + 1 else 0
/-- Behind the digits from place p on. -/
def dg (zs : List Int) (p : Nat) : Nat := p + dl (zs.drop p)

theorem dl_le (l : List Int) : dl l ≤ l.length := by
  induction l with
  | nil => simp [dl]
  | cons c l ih => simp only [dl, List.length_cons]; split <;> omega

theorem dg_le (zs : List Int) (p : Nat) (h : p ≤ zs.length) : p ≤ dg zs p ∧ dg zs p ≤ zs.length := by
  have := dl_le (zs.drop p)
  simp at this
  unfold dg; omega

theorem drop_cons (zs : List Int) (p : Nat) (h : p < zs.length) : zs.drop p = nth zs p :: zs.drop (p + 1) := by
  rw [List.drop_eq_getElem_cons h]
  simp [nth, h]

theorem dg_yes (zs : List Int) (p : Nat) (h : p < zs.length) (hs : dgt (nth zs p) = true) : dg zs (p + 1) = dg zs p := by
  unfold dg
  rw [drop_cons zs p h, dl, if_pos hs]
  omega

theorem dg_no (zs : List Int) (p : Nat) (h : p < zs.length) (hs : dgt (nth zs p) = false) : dg zs p = p := by
  unfold dg
  rw [drop_cons zs p h, dl, if_neg (by rw [hs]; decide)]
  omega

theorem dg_end (zs : List Int) : dg zs zs.length = zs.length := by
  simp [dg, dl]

theorem at_in {zs : List Int} {p : Nat} {c : Int} (h : atB zs p c = true) : p < zs.length ∧ nth zs p = c := by
  unfold atB at h
  simp only [beq_iff_eq] at h
  obtain ⟨h1, h2⟩ := List.getElem?_eq_some_iff.1 h
  exact ⟨h1, by simp [nth, h1, h2]⟩

theorem at_of {zs : List Int} {p : Nat} {c : Int} (h : p < zs.length) (e : nth zs p = c) : atB zs p c = true := by
  have e' : zs[p] = c := by simpa [nth, h] using e
  unfold atB; simp [h, e']

theorem at_not {zs : List Int} {p : Nat} {c : Int} (h : nth zs p ≠ c) (hp : p < zs.length) : atB zs p c = false := by
  have e' : ¬ zs[p] = c := by simpa [nth, hp] using h
  unfold atB; simp [hp, e']

theorem at_out {zs : List Int} {p : Nat} {c : Int} (hp : zs.length ≤ p) : atB zs p c = false := by
  unfold atB; simp [hp]

/-! ### what number does, by places -/
/-- The exponent, at place q: where it ends, and whether it is whole. -/
def expP (zs : List Int) (q : Nat) : Nat × Bool :=
  if atB zs q 101 || atB zs q 69 then
    let r := if atB zs (q + 1) 43 || atB zs (q + 1) 45 then q + 1 + 1 else q + 1
    (dg zs r, decide (r < dg zs r))
  else (q, true)
/-- The fraction, then the exponent. -/
def fracP (zs : List Int) (q : Nat) : Nat × Bool :=
  if atB zs q 46 then (if q + 1 < dg zs (q + 1) then expP zs (dg zs (q + 1)) else (dg zs (q + 1), false)) else expP zs q
/-- The first digits at place q. -/
def intP (zs : List Int) (q : Nat) : Nat × Bool :=
  if atB zs q 48 then fracP zs (q + 1)
  else if q < zs.length ∧ 49 ≤ nth zs q ∧ nth zs q ≤ 57 then fracP zs (dg zs q)
  else (q, false)
def numP (zs : List Int) (p : Nat) : Nat × Bool := intP zs (if atB zs p 45 then p + 1 else p)

/-! ### the automaton -/
def eE (c : Int) : Bool := c == 101 || c == 69
def pm (c : Int) : Bool := c == 43 || c == 45
/-- One step: -1 where the byte cannot go on. -/
def step (s c : Int) : Int :=
  if s = 0 then (if c = 45 then 1 else if c = 48 then 2 else if dgt c then 3 else -1)
  else if s = 1 then (if c = 48 then 2 else if dgt c then 3 else -1)
  else if s = 2 then (if c = 46 then 4 else if eE c then 6 else -1)
  else if s = 3 then (if dgt c then 3 else if c = 46 then 4 else if eE c then 6 else -1)
  else if s = 4 then (if dgt c then 5 else -1)
  else if s = 5 then (if dgt c then 5 else if eE c then 6 else -1)
  else if s = 6 then (if pm c then 7 else if dgt c then 8 else -1)
  else if s = 7 then (if dgt c then 8 else -1)
  else if s = 8 then (if dgt c then 8 else -1)
  else -1
/-- How far the automaton goes, and where it stands then. -/
def run (s : Int) : List Int → Nat × Int
  | [] => (0, s)
  | c :: l => if step s c < 0 then (0, s) else ((run (step s c) l).1 + 1, (run (step s c) l).2)
def acc (s : Int) : Bool := s == 2 || (s == 3 || (s == 5 || s == 8))

end Go.Proofs.Qxb6602928a.Num
