import Derived.Test.Qxb6600922aRows
namespace Go.Proofs.Qxb6600922a.Plain

/-- The byte at place p (0 behind the end), behind a name of its own. -/
def nth (zs : List Int) (p : Nat) : Int := zs.getD p 0
/-- The byte at place p is c. -/
def atB (zs : List Int) (p : Nat) (c : Int) : Bool := zs[p]? == some c
/-- A digit. -/
def dgt (c : Int) : Bool := decide (48 ≤ c) && decide (c ≤ 57)
/-- How many digits a list begins with. -/
def dl : List Int → Nat
  | [] => 0
  | c :: l => if dgt c then dl l + 1 else 0
/-- Behind the digits from place p on. -/
def dg (zs : List Int) (p : Nat) : Nat := p + dl (zs.drop p)

theorem dl_le (l : List Int) : dl l ≤ l.length := by
  induction l with
  | nil => simp [dl]
  | cons c l ih => simp only [dl, List.length_cons]; split <;> omega

theorem dg_le (zs : List Int) (p : Nat) (h : p ≤ zs.length) : p ≤ dg zs p ∧ dg zs p ≤ zs.length := by
  have := dl_le (zs.drop p)
  simp at this
  unfold dg; omega

theorem drop_cons (zs : List Int) (p : Nat) (h : p < zs.length) : zs.drop p = nth zs p :: zs.drop (p + 1) := by
  rw [List.drop_eq_getElem_cons h]
  simp [nth, h]

theorem dg_yes (zs : List Int) (p : Nat) (h : p < zs.length) (hs : dgt (nth zs p) = true) : dg zs (p + 1) = dg zs p := by
  unfold dg
  rw [drop_cons zs p h, dl, if_pos hs]
  omega

theorem dg_no (zs : List Int) (p : Nat) (h : p < zs.length) (hs : dgt (nth zs p) = false) : dg zs p = p := by
  unfold dg
  rw [drop_cons zs p h, dl, if_neg (by rw [hs]; decide)]
  omega

theorem dg_end (zs : List Int) : dg zs zs.length = zs.length := by
  simp [dg, dl]

theorem at_in {zs : List Int} {p : Nat} {c : Int} (h : atB zs p c = true) : p < zs.length ∧ nth zs p = c := by
  unfold atB at h
  simp only [beq_iff_eq] at h
  obtain ⟨h1, h2⟩ := List.getElem?_eq_some_iff.1 h
  exact ⟨h1, by simp [nth, h1, h2]⟩

theorem at_of {zs : List Int} {p : Nat} {c : Int} (h : p < zs.length) (e : nth zs p = c) : atB zs p c = true := by
  have e' : zs[p] = c := by simpa [nth, h] using e
  unfold atB; simp [h, e']

theorem at_not {zs : List Int} {p : Nat} {c : Int} (h : nth zs p ≠ c) (hp : p < zs.length) : atB zs p c = false := by
  have e' : ¬ zs[p] = c := by simpa [nth, hp] using h
  unfold atB; simp [hp, e']

theorem at_out {zs : List Int} {p : Nat} {c : Int} (hp : zs.length ≤ p) : atB zs p c = false := by
  unfold atB; simp [hp]

/-- Two letters at once. -/
def at2 (zs : List Int) (p : Nat) (c1 c2 : Int) : Bool := atB zs p c1 || atB zs p c2

theorem at2_in {zs : List Int} {p : Nat} {c1 c2 : Int} (h : at2 zs p c1 c2 = true) : p < zs.length ∧ (nth zs p = c1 ∨ nth zs p = c2) := by
  rcases Bool.or_eq_true_iff.1 h with k | k
  · exact ⟨(at_in k).1, Or.inl (at_in k).2⟩
  · exact ⟨(at_in k).1, Or.inr (at_in k).2⟩

theorem at2_of1 {zs : List Int} {p : Nat} {c1 c2 : Int} (h : p < zs.length) (e : nth zs p = c1) : at2 zs p c1 c2 = true := by
  unfold at2; rw [at_of h e]; rfl
theorem at2_of2 {zs : List Int} {p : Nat} {c1 c2 : Int} (h : p < zs.length) (e : nth zs p = c2) : at2 zs p c1 c2 = true := by
  unfold at2; rw [at_of h e]; simp
theorem at2_not {zs : List Int} {p : Nat} {c1 c2 : Int} (h : p < zs.length) (e1 : nth zs p ≠ c1) (e2 : nth zs p ≠ c2) : at2 zs p c1 c2 = false := by
  unfold at2; rw [at_not e1 h, at_not e2 h]; rfl
theorem at2_out {zs : List Int} {p : Nat} {c1 c2 : Int} (h : zs.length ≤ p) : at2 zs p c1 c2 = false := by
  unfold at2; rw [at_out h, at_out h]; rfl

/-- Behind a sign. -/
def sgn (zs : List Int) (i : Nat) : Nat := if at2 zs i 43 45 then i + 1 else i

/-- An induction on how much is left. -/
theorem left_ind (zs : List Int) (C : Nat → Prop) (h0 : C zs.length) (h1 : ∀ q, q < zs.length → C (q + 1) → C q) : ∀ q, q ≤ zs.length → C q := by
  have key : ∀ n q, q + n = zs.length → C q := by
    intro n
    induction n with
    | zero => intro q hq; have : q = zs.length := by omega
              rw [this]; exact h0
    | succ n ih => intro q hq; exact h1 q (by omega) (ih (q + 1) (by omega))
  exact fun q hq => key (zs.length - q) q (by omega)

theorem dg_stop (zs : List Int) : ∀ q, q ≤ zs.length → (dg zs q = zs.length ∨ (dg zs q < zs.length ∧ dgt (nth zs (dg zs q)) = false)) := by
  apply left_ind
  · rw [dg_end]; exact Or.inl rfl
  · intro q h ih
    by_cases hd : dgt (nth zs q) = true
    · rw [← dg_yes zs q h hd]; exact ih
    · rw [dg_no zs q h (by simpa using hd)]
      exact Or.inr ⟨h, by simpa using hd⟩

theorem first_digit (zs : List Int) (q : Nat) (hq : q < zs.length) : (q < dg zs q) ↔ dgt (nth zs q) = true := by
  by_cases hd : dgt (nth zs q) = true
  · have h1 := dg_yes zs q hq hd
    have h2 := (dg_le zs (q + 1) (by omega)).1
    exact ⟨fun _ => hd, fun _ => by omega⟩
  · have h1 := dg_no zs q hq (by simpa using hd)
    exact ⟨fun h => by omega, fun h => absurd h hd⟩

theorem sgn_le (zs : List Int) (i : Nat) (h : i ≤ zs.length) : i ≤ sgn zs i ∧ sgn zs i ≤ zs.length := by
  unfold sgn
  by_cases hs : at2 zs i 43 45 = true
  · rw [if_pos hs]; have := (at2_in hs).1; omega
  · rw [if_neg hs]; omega

/-! ### what number does -/
/-- Behind the exponent, if a whole one stands at place i. -/
def expE (zs : List Int) (i : Nat) : Nat :=
  if at2 zs i 101 69 then (if sgn zs (i + 1) < dg zs (sgn zs (i + 1)) then dg zs (sgn zs (i + 1)) else i) else i
def fracE (zs : List Int) (i : Nat) : Nat := if atB zs i 46 then dg zs (i + 1) else i
def numE (zs : List Int) (p : Nat) : Nat := expE zs (fracE zs (dg zs p))

/-! ### the automaton with its last accepting place -/
def eE (c : Int) : Bool := c == 101 || c == 69
def pm (c : Int) : Bool := c == 43 || c == 45
def nx (s c : Int) : Int :=
  if s = 0 ∨ s = 1 then (if dgt c then 1 else if c = 46 then 2 else if eE c then 4 else -1)
  else if s = 2 ∨ s = 3 then (if dgt c then 3 else if eE c then 4 else -1)
  else if s = 4 then (if dgt c then 6 else if pm c then 5 else -1)
  else (if dgt c then 6 else -1)
def md (s : Int) (last i : Nat) : List Int → Nat
  | [] => last
  | c :: l => if nx s c < 0 then last else md (nx s c) (if nx s c = 4 ∨ nx s c = 5 then last else i + 1) (i + 1) l
def mdP (zs : List Int) (s : Int) (last i : Nat) : Nat := md s last i (zs.drop i)

theorem mdP_end (zs : List Int) (s : Int) (last i : Nat) (h : zs.length ≤ i) : mdP zs s last i = last := by
  unfold mdP; rw [List.drop_eq_nil_of_le h]; rfl
theorem mdP_step (zs : List Int) (s : Int) (last i : Nat) (h : i < zs.length) :
    mdP zs s last i = if nx s (nth zs i) < 0 then last else mdP zs (nx s (nth zs i)) (if nx s (nth zs i) = 4 ∨ nx s (nth zs i) = 5 then last else i + 1) (i + 1) := by
  unfold mdP; rw [drop_cons zs i h, md]

theorem atpm (zs : List Int) (q : Nat) (h : q < zs.length) : at2 zs q 43 45 = pm (nth zs q) := by
  unfold at2
  by_cases h1 : nth zs q = 43
  · rw [at_of h h1, h1]; rfl
  · rw [at_not h1 h]
    by_cases h2 : nth zs q = 45
    · rw [at_of h h2, h2]; rfl
    · rw [at_not h2 h]; simp only [pm, Bool.false_or]; symm; simp only [Bool.or_eq_false_iff, beq_eq_false_iff_ne]; exact ⟨h1, h2⟩

theorem ateE (zs : List Int) (q : Nat) (h : q < zs.length) : at2 zs q 101 69 = eE (nth zs q) := by
  unfold at2
  by_cases h1 : nth zs q = 101
  · rw [at_of h h1, h1]; rfl
  · rw [at_not h1 h]
    by_cases h2 : nth zs q = 69
    · rw [at_of h h2, h2]; rfl
    · rw [at_not h2 h]; simp only [eE, Bool.false_or]; symm; simp only [Bool.or_eq_false_iff, beq_eq_false_iff_ne]; exact ⟨h1, h2⟩

theorem md6 (zs : List Int) : ∀ q, q ≤ zs.length → mdP zs 6 q q = dg zs q := by
  apply left_ind
  · rw [mdP_end zs 6 _ _ (Nat.le_refl _), dg_end]
  · intro q h ih
    rw [mdP_step zs 6 q q h]
    by_cases hd : dgt (nth zs q) = true
    · have e : nx 6 (nth zs q) = 6 := by simp only [nx]; simp [hd]
      rw [e, if_neg (by omega), if_neg (by omega), ih, dg_yes zs q h hd]
    · have e : nx 6 (nth zs q) = -1 := by simp only [nx]; simp [hd]
      rw [e, if_pos (by omega), dg_no zs q h (by simpa using hd)]

theorem md5 (zs : List Int) (L q : Nat) (hq : q ≤ zs.length) : mdP zs 5 L q = if q < dg zs q then dg zs q else L := by
  by_cases h : q < zs.length
  · rw [mdP_step zs 5 L q h]
    by_cases hd : dgt (nth zs q) = true
    · have e : nx 5 (nth zs q) = 6 := by simp only [nx]; simp [hd]
      rw [if_pos ((first_digit zs q h).2 hd), e, if_neg (by omega), if_neg (by omega), md6 zs (q + 1) (by omega), dg_yes zs q h hd]
    · have e : nx 5 (nth zs q) = -1 := by simp only [nx]; simp [hd]
      rw [if_neg (fun k => hd ((first_digit zs q h).1 k)), e, if_pos (by omega)]
  · have e : q = zs.length := by omega
    rw [mdP_end zs 5 L q (by omega), e, dg_end, if_neg (by omega)]

theorem pm_not {c : Int} (h : pm c = true) : dgt c = false := by
  simp only [pm, Bool.or_eq_true, beq_iff_eq] at h
  rcases h with rfl | rfl <;> decide

theorem md4 (zs : List Int) (L q : Nat) (hq : q ≤ zs.length) : mdP zs 4 L q = if sgn zs q < dg zs (sgn zs q) then dg zs (sgn zs q) else L := by
  unfold sgn
  by_cases h : q < zs.length
  · rw [mdP_step zs 4 L q h, atpm zs q h]
    by_cases hp : pm (nth zs q) = true
    · have e : nx 4 (nth zs q) = 5 := by simp only [nx]; simp [pm_not hp, hp]
      rw [if_pos hp, e, if_neg (by omega), if_pos (by omega), md5 zs L (q + 1) (by omega)]
    · rw [if_neg hp]
      by_cases hd : dgt (nth zs q) = true
      · have e : nx 4 (nth zs q) = 6 := by simp only [nx]; simp [hd]
        rw [if_pos ((first_digit zs q h).2 hd), e, if_neg (by omega), if_neg (by omega), md6 zs (q + 1) (by omega), dg_yes zs q h hd]
      · have e : nx 4 (nth zs q) = -1 := by simp only [nx]; simp [hd, hp]
        rw [if_neg (fun k => hd ((first_digit zs q h).1 k)), e, if_pos (by omega)]
  · have e : q = zs.length := by omega
    rw [mdP_end zs 4 L q (by omega), at2_out (by omega), e]
    simp [dg_end]

/-- At the exponent: a state that takes e, E to 4 and ends at all else. -/
theorem md_exp (zs : List Int) (s : Int) (q : Nat) (hq : q ≤ zs.length) (he : q < zs.length → nx s (nth zs q) = if eE (nth zs q) then 4 else -1) : mdP zs s q q = expE zs q := by
  unfold expE
  by_cases h : q < zs.length
  · rw [mdP_step zs s q q h, he h, ateE zs q h]
    by_cases hx : eE (nth zs q) = true
    · rw [if_pos hx, if_pos hx, if_neg (by omega), if_pos (by omega), md4 zs q (q + 1) (by omega)]
    · rw [if_neg hx, if_neg hx, if_pos (by omega)]
  · rw [mdP_end zs s q q (by omega), at2_out (by omega)]; rfl

/-- The digits are passed over: from s to t, which keeps them. -/
theorem md_digits (zs : List Int) (t : Int) (ht : t = 1 ∨ t = 3) (hd : ∀ c, dgt c = true → nx t c = t) : ∀ q, q ≤ zs.length → mdP zs t q q = mdP zs t (dg zs q) (dg zs q) := by
  apply left_ind
  · rw [dg_end]
  · intro q h ih
    by_cases k : dgt (nth zs q) = true
    · rw [mdP_step zs t q q h, hd _ k, if_neg (by omega), if_neg (by omega), ← dg_yes zs q h k]; exact ih
    · rw [dg_no zs q h (by simpa using k)]

theorem nx1 (c : Int) (h : dgt c = true) : nx 1 c = 1 := by simp [nx, h]
theorem nx3 (c : Int) (h : dgt c = true) : nx 3 c = 3 := by simp [nx, h]
theorem md01 (zs : List Int) (l q : Nat) : mdP zs 0 l q = mdP zs 1 l q := by
  by_cases h : q < zs.length
  · rw [mdP_step zs 0 l q h, mdP_step zs 1 l q h]
    have e : nx 0 (nth zs q) = nx 1 (nth zs q) := by simp [nx]
    rw [e]
  · rw [mdP_end zs 0 l q (by omega), mdP_end zs 1 l q (by omega)]
theorem md23 (zs : List Int) (l q : Nat) : mdP zs 2 l q = mdP zs 3 l q := by
  by_cases h : q < zs.length
  · rw [mdP_step zs 2 l q h, mdP_step zs 3 l q h]
    have e : nx 2 (nth zs q) = nx 3 (nth zs q) := by simp [nx]
    rw [e]
  · rw [mdP_end zs 2 l q (by omega), mdP_end zs 3 l q (by omega)]

/-- THE PLAIN LAW. -/
theorem law (zs : List Int) (p : Nat) (hp : p ≤ zs.length) : mdP zs 0 p p = numE zs p := by
  have hl := (dg_le zs p hp).2
  rw [md01, md_digits zs 1 (Or.inl rfl) nx1 p hp]
  unfold numE fracE
  by_cases h46 : atB zs (dg zs p) 46 = true
  · obtain ⟨hlt, hc⟩ := at_in h46
    rw [if_pos h46, mdP_step zs 1 _ _ hlt, hc]
    have e : nx 1 46 = 2 := by decide
    rw [e, if_neg (by omega), if_neg (by omega), md23, md_digits zs 3 (Or.inr rfl) nx3 _ (by omega)]
    refine md_exp zs 3 _ (dg_le zs _ (by omega)).2 ?_
    intro h
    rcases dg_stop zs (dg zs p + 1) (by omega) with k | ⟨_, k⟩
    · omega
    · simp only [nx]; simp [k]
  · rw [if_neg h46]
    refine md_exp zs 1 _ hl ?_
    intro h
    have hne : ¬ nth zs (dg zs p) = 46 := fun k => h46 (at_of h k)
    rcases dg_stop zs p hp with k | ⟨_, k⟩
    · omega
    · simp only [nx]; simp [k, hne]

theorem frac_le (zs : List Int) (i : Nat) (h : i ≤ zs.length) : i ≤ fracE zs i ∧ fracE zs i ≤ zs.length := by
  unfold fracE
  by_cases h46 : atB zs i 46 = true
  · have hl := (at_in h46).1
    rw [if_pos h46]
    have := dg_le zs (i + 1) (by omega)
    omega
  · rw [if_neg h46]; omega
theorem exp_le (zs : List Int) (i : Nat) (h : i ≤ zs.length) : i ≤ expE zs i ∧ expE zs i ≤ zs.length := by
  unfold expE
  by_cases he : at2 zs i 101 69 = true
  · have hl := (at2_in he).1
    rw [if_pos he]
    have h1 := sgn_le zs (i + 1) (by omega)
    have h2 := dg_le zs (sgn zs (i + 1)) h1.2
    split <;> omega
  · rw [if_neg he]; omega
theorem num_le (zs : List Int) (p : Nat) (h : p ≤ zs.length) : p ≤ numE zs p ∧ numE zs p ≤ zs.length := by
  have h1 := dg_le zs p h
  have h2 := frac_le zs (dg zs p) h1.2
  have h3 := exp_le zs (fracE zs (dg zs p)) h2.2
  unfold numE; omega
end Go.Proofs.Qxb6600922a.Plain
