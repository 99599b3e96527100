import Derived.Test.Qxb6603032aRows
namespace Go.Proofs.Qxb6603032a.Plain

/-- The byte at place p (0 behind the end), behind a name of its own. -/
def nth (zs : List Int) (p : Nat) : Int := zs.getD p 0
/-- The byte at place p is c. -/
def atB (zs : List Int) (p : Nat) (c : Int) : Bool := zs[p]? == some c
/-- A digit. -/
def dgt (c : Int) : Bool := decide (48 ≤ c) && decide (c ≤ 57)
/-- How many digits a list begins with. -/
def dl : List Int → Nat
  | [] => 0
  | c :: l => if dgt c then dl l + 1 else 0
/-- Behind the digits from place p on. -/
def dg (zs : List Int) (p : Nat) : Nat := p + dl (zs.drop p)

theorem dl_le (l : List Int) : dl l ≤ l.length := by
  induction l with
  | nil => simp [dl]
  | cons c l ih => simp only [dl, List.length_cons]; split <;> omega

theorem dg_le (zs : List Int) (p : Nat) (h : p ≤ zs.length) : p ≤ dg zs p ∧ dg zs p ≤ zs.length := by
  have := dl_le (zs.drop p)
  simp at this
  unfold dg; omega

theorem drop_cons (zs : List Int) (p : Nat) (h : p < zs.length) : zs.drop p = nth zs p :: zs.drop (p + 1) := by
  rw [List.drop_eq_getElem_cons h]
  simp [nth, h]

theorem dg_yes (zs : List Int) (p : Nat) (h : p < zs.length) (hs : dgt (nth zs p) = true) : dg zs (p + 1) = dg zs p := by
  unfold dg
  rw [drop_cons zs p h, dl, if_pos hs]
  omega

theorem dg_no (zs : List Int) (p : Nat) (h : p < zs.length) (hs : dgt (nth zs p) = false) : dg zs p = p := by
  unfold dg
  rw [drop_cons zs p h, dl, if_neg (by rw [hs]; decide)]
  omega

theorem dg_end (zs : List Int) : dg zs zs.length = zs.length := by
  simp [dg, dl]

theorem at_in {zs : List Int} {p : Nat} {c : Int} (h : atB zs p c = true) : p < zs.length ∧ nth zs p = c := by
  unfold atB at h
  simp only [beq_iff_eq] at h
  obtain ⟨h1, h2⟩ := List.getElem?_eq_some_iff.1 h
  exact ⟨h1, by simp [nth, h1, h2]⟩

theorem at_of {zs : List Int} {p : Nat} {c : Int} (h : p < zs.length) (e : nth zs p = c) : atB zs p c = true := by
  have e' : zs[p] = c := by simpa [nth, h] using e
  unfold atB; simp [h, e']

theorem at_not {zs : List Int} {p : Nat} {c : Int} (h : nth zs p ≠ c) (hp : p < zs.length) : atB zs p c = false := by
  have e' : ¬ zs[p] = c := by simpa [nth, hp] using h
  unfold atB; simp [hp, e']

theorem at_out {zs : List Int} {p : Nat} {c : Int} (hp : zs.length ≤ p) : atB zs p c = false := by
  unfold atB; simp [hp]

/-- Two letters at once. -/
def at2 (zs : List Int) (p : Nat) (c1 c2 : Int) : Bool := atB zs p c1 || atB zs p c2

theorem at2_in {zs : List Int} {p : Nat} {c1 c2 : Int} (h : at2 zs p c1 c2 = true) : p < zs.length ∧ (nth zs p = c1 ∨ nth zs p = c2) := by
  rcases Bool.or_eq_true_iff.1 h with k | k
  · exact ⟨(at_in k).1, Or.inl (at_in k).2⟩
  · exact ⟨(at_in k).1, Or.inr (at_in k).2⟩

theorem at2_of1 {zs : List Int} {p : Nat} {c1 c2 : Int} (h : p < zs.length) (e : nth zs p = c1) : at2 zs p c1 c2 = true := by
  unfold at2; rw [at_of h e]; rfl
theorem at2_of2 {zs : List Int} {p : Nat} {c1 c2 : Int} (h : p < zs.length) (e : nth zs p = c2) : at2 zs p c1 c2 = true := by
  unfold at2; rw [at_of h e]; simp
theorem at2_not {zs : List Int} {p : Nat} {c1 c2 : Int} (h : p < zs.length) (e1 : nth zs p ≠ c1) (e2 : nth zs p ≠ c2) : at2 zs p c1 c2 = false := by
  unfold at2; rw [at_not e1 h, at_not e2 h]; rfl
theorem at2_out {zs : List Int} {p : Nat} {c1 c2 : Int} (h : zs.length ≤ p) : at2 zs p c1 c2 = false := by
  unfold at2; rw [at_out h, at_out h]; rfl

/-! ### the mantissa -/
/-- Digits and one point: how far, how many digits, a point met. -/
def sc : List Int → Nat → Bool → Nat × Nat × Bool
  | [], d, p => (0, d, p)
  | c :: l, d, p =>
    if (c == 46 && !p) = true then ((sc l d true).1 + 1, (sc l d true).2)
    else if dgt c = true then ((sc l (d + 1) p).1 + 1, (sc l (d + 1) p).2)
    else (0, d, p)
def scP (zs : List Int) (i d : Nat) (p : Bool) : Nat × Nat × Bool := (i + (sc (zs.drop i) d p).1, (sc (zs.drop i) d p).2)

theorem scP_end (zs : List Int) (i d : Nat) (p : Bool) (h : zs.length ≤ i) : scP zs i d p = (i, d, p) := by
  unfold scP
  rw [List.drop_eq_nil_of_le h]
  rfl
theorem scP_dot (zs : List Int) (i d : Nat) (p : Bool) (h : i < zs.length) (e : (nth zs i == 46 && !p) = true) : scP zs i d p = scP zs (i + 1) d true := by
  unfold scP
  rw [drop_cons zs i h, sc, if_pos e]
  simp only [Prod.mk.injEq, and_true]; omega
theorem scP_dig (zs : List Int) (i d : Nat) (p : Bool) (h : i < zs.length) (e : (nth zs i == 46 && !p) = false) (hd : dgt (nth zs i) = true) : scP zs i d p = scP zs (i + 1) (d + 1) p := by
  unfold scP
  rw [drop_cons zs i h, sc, if_neg (by rw [e]; decide), if_pos hd]
  simp only [Prod.mk.injEq, and_true]; omega
theorem scP_stop (zs : List Int) (i d : Nat) (p : Bool) (h : i < zs.length) (e : (nth zs i == 46 && !p) = false) (hd : dgt (nth zs i) = false) : scP zs i d p = (i, d, p) := by
  unfold scP
  rw [drop_cons zs i h, sc, if_neg (by rw [e]; decide), if_neg (by rw [hd]; decide)]
  rfl

/-! ### what isNumber answers -/
/-- Behind the exponent's sign. -/
def sgn (zs : List Int) (i : Nat) : Nat := if at2 zs i 43 45 then i + 1 else i
/-- Behind the mantissa. -/
def fin (fl : Bool) (zs : List Int) (i : Nat) (p : Bool) : Bool :=
  if at2 zs i 101 69 then (if dg zs (sgn zs (i + 1)) = sgn zs (i + 1) then false else dg zs (sgn zs (i + 1)) == zs.length)
  else i == zs.length && (!fl || p)
def isN (fl : Bool) (zs : List Int) : Bool :=
  if (scP zs (sgn zs 0) 0 false).2.1 = 0 then false else fin fl zs (scP zs (sgn zs 0) 0 false).1 (scP zs (sgn zs 0) 0 false).2.2

/-! ### the automaton -/
def eE (c : Int) : Bool := c == 101 || c == 69
def pm (c : Int) : Bool := c == 43 || c == 45
def cls (c : Int) : Int := if dgt c then 0 else if pm c then 1 else if c == 46 then 2 else if eE c then 3 else 4
def stp (s k : Int) : Int :=
  if s = 0 then (if k = 0 then 2 else if k = 1 then 1 else if k = 2 then 3 else -1)
  else if s = 1 then (if k = 0 then 2 else if k = 2 then 3 else -1)
  else if s = 2 then (if k = 0 then 2 else if k = 2 then 4 else if k = 3 then 5 else -1)
  else if s = 3 then (if k = 0 then 4 else -1)
  else if s = 4 then (if k = 0 then 4 else if k = 3 then 5 else -1)
  else if s = 5 then (if k = 0 then 7 else if k = 1 then 6 else -1)
  else if s = 6 then (if k = 0 then 7 else -1)
  else if s = 7 then (if k = 0 then 7 else -1)
  else -1
/-- The state behind the whole list; -1: dead. -/
def aut (s : Int) : List Int → Int
  | [] => s
  | c :: l => if stp s (cls c) < 0 then -1 else aut (stp s (cls c)) l
def acc (fl : Bool) (s : Int) : Bool := if fl then (s == 4 || s == 7) else (s == 2 || (s == 4 || s == 7))
def autP (zs : List Int) (s : Int) (q : Nat) : Int := aut s (zs.drop q)

theorem autP_end (zs : List Int) (s : Int) (q : Nat) (h : zs.length ≤ q) : autP zs s q = s := by
  unfold autP; rw [List.drop_eq_nil_of_le h]; rfl
theorem autP_step (zs : List Int) (s : Int) (q : Nat) (h : q < zs.length) : autP zs s q = if stp s (cls (nth zs q)) < 0 then -1 else autP zs (stp s (cls (nth zs q))) (q + 1) := by
  unfold autP; rw [drop_cons zs q h, aut]

/-- An induction on how much is left. -/
theorem left_ind (zs : List Int) (C : Nat → Prop) (h0 : C zs.length) (h1 : ∀ q, q < zs.length → C (q + 1) → C q) : ∀ q, q ≤ zs.length → C q := by
  have key : ∀ n q, q + n = zs.length → C q := by
    intro n
    induction n with
    | zero => intro q hq; have : q = zs.length := by omega
              rw [this]; exact h0
    | succ n ih => intro q hq; exact h1 q (by omega) (ih (q + 1) (by omega))
  exact fun q hq => key (zs.length - q) q (by omega)

theorem dg_stop (zs : List Int) : ∀ q, q ≤ zs.length → (dg zs q = zs.length ∨ (dg zs q < zs.length ∧ dgt (nth zs (dg zs q)) = false)) := by
  apply left_ind
  · rw [dg_end]; exact Or.inl rfl
  · intro q h ih
    by_cases hd : dgt (nth zs q) = true
    · rw [← dg_yes zs q h hd]; exact ih
    · rw [dg_no zs q h (by simpa using hd)]
      exact Or.inr ⟨h, by simpa using hd⟩

theorem cls_dig {c : Int} (h : dgt c = true) : cls c = 0 := by simp [cls, h]
theorem cls_pm {c : Int} (h : pm c = true) : cls c = 1 := by
  have hd : dgt c = false := by
    simp only [pm, Bool.or_eq_true, beq_iff_eq] at h
    rcases h with rfl | rfl <;> decide
  simp [cls, hd, h]
theorem cls_dot : cls 46 = 2 := by decide
theorem cls_e {c : Int} (h : eE c = true) : cls c = 3 := by
  simp only [eE, Bool.or_eq_true, beq_iff_eq] at h
  rcases h with rfl | rfl <;> decide
theorem cls_nz {c : Int} (h : dgt c = false) : cls c ≠ 0 ∧ (pm c = false → cls c ≠ 1) ∧ (c ≠ 46 → cls c ≠ 2) ∧ (eE c = false → cls c ≠ 3) := by
  unfold cls
  rw [if_neg (by rw [h]; decide)]
  refine ⟨?_, ?_, ?_, ?_⟩
  · split
    · decide
    · split
      · decide
      · split <;> decide
  · intro k; rw [if_neg (by rw [k]; decide)]; split
    · decide
    · split <;> decide
  · intro k; split
    · decide
    · rw [if_neg (by simpa using k)]; split <;> decide
  · intro k; split
    · decide
    · split
      · decide
      · rw [if_neg (by rw [k]; decide)]; decide

/-! ### the exponent -/
theorem aut7 (zs : List Int) : ∀ q, q ≤ zs.length → autP zs 7 q = if dg zs q = zs.length then 7 else -1 := by
  apply left_ind
  · rw [autP_end zs 7 _ (Nat.le_refl _), dg_end, if_pos rfl]
  · intro q h ih
    rw [autP_step zs 7 q h]
    by_cases hd : dgt (nth zs q) = true
    · rw [cls_dig hd, ← dg_yes zs q h hd]; exact ih
    · have hf : dgt (nth zs q) = false := by simpa using hd
      have e : stp 7 (cls (nth zs q)) = -1 := by simp only [stp]; simp [(cls_nz hf).1]
      rw [e, if_pos (by omega), dg_no zs q h hf, if_neg (by omega)]

theorem acc_dead (fl : Bool) : acc fl (-1) = false := by cases fl <;> rfl

/-- Behind the exponent's sign, from a state that takes a digit to 7 and all else to its death. -/
theorem aut_digits (fl : Bool) (zs : List Int) (s : Int) (r : Nat) (hr : r ≤ zs.length) (ha : acc fl s = false) (h0 : stp s 0 = 7) (hn : r < zs.length → dgt (nth zs r) = false → stp s (cls (nth zs r)) = -1) :
    acc fl (autP zs s r) = (if dg zs r = r then false else dg zs r == zs.length) := by
  by_cases h : r < zs.length
  · rw [autP_step zs s r h]
    by_cases hd : dgt (nth zs r) = true
    · have e := dg_yes zs r h hd
      have hl := (dg_le zs (r + 1) (by omega)).1
      rw [cls_dig hd, h0, if_neg (show ¬ (7 : Int) < 0 by omega), aut7 zs (r + 1) (by omega), e, if_neg (show ¬ dg zs r = r by omega)]
      by_cases k : dg zs r = zs.length
      · rw [if_pos k, k]; cases fl <;> simp [acc]
      · rw [if_neg k, acc_dead]; symm; simpa using k
    · have hf : dgt (nth zs r) = false := by simpa using hd
      rw [hn h hf, if_pos (by omega), acc_dead, dg_no zs r h hf, if_pos rfl]
  · have e : r = zs.length := by omega
    rw [autP_end zs s r (by omega), ha, e, dg_end, if_pos rfl]

theorem acc_low (fl : Bool) (s : Int) (h : s = 0 ∨ s = 1 ∨ s = 3 ∨ s = 5 ∨ s = 6) : acc fl s = false := by
  rcases h with rfl | rfl | rfl | rfl | rfl <;> cases fl <;> rfl

theorem aut5 (fl : Bool) (zs : List Int) (i : Nat) (hi : i ≤ zs.length) :
    acc fl (autP zs 5 i) = (if dg zs (sgn zs i) = sgn zs i then false else dg zs (sgn zs i) == zs.length) := by
  unfold sgn
  by_cases hs : at2 zs i 43 45 = true
  · obtain ⟨hl, hc⟩ := at2_in hs
    have hp : pm (nth zs i) = true := by
      rcases hc with k | k <;> rw [k] <;> decide
    rw [if_pos hs, autP_step zs 5 i hl, cls_pm hp]
    show acc fl (autP zs 6 (i + 1)) = _
    exact aut_digits fl zs 6 (i + 1) (by omega) (acc_low fl 6 (by omega)) (by decide) (fun _ hf => by simp only [stp]; simp [(cls_nz hf).1])
  · rw [if_neg hs]
    refine aut_digits fl zs 5 i hi (acc_low fl 5 (by omega)) (by decide) ?_
    intro hl hf
    have hp : pm (nth zs i) = false := by
      by_cases k : pm (nth zs i) = true
      · exfalso
        simp only [pm, Bool.or_eq_true, beq_iff_eq] at k
        rcases k with k | k
        · exact hs (at2_of1 hl k)
        · exact hs (at2_of2 hl k)
      · simpa using k
    simp only [stp]; simp [(cls_nz hf).1, (cls_nz hf).2.1 hp]

/-! ### the mantissa -/
/-- The state that d digits and a point, or none, have led to, from s0 on. -/
def st (s0 : Int) (d : Nat) (p : Bool) : Int := if d = 0 then (if p then 3 else s0) else (if p then 4 else 2)

theorem mant (zs : List Int) (s0 : Int) (h0 : s0 = 0 ∨ s0 = 1) : ∀ q, q ≤ zs.length → ∀ d p, autP zs (st s0 d p) q = autP zs (st s0 (scP zs q d p).2.1 (scP zs q d p).2.2) (scP zs q d p).1 := by
  apply left_ind
  · intro d p; rw [scP_end zs _ d p (Nat.le_refl _)]
  · intro q h ih d p
    by_cases e : (nth zs q == 46 && !p) = true
    · rw [scP_dot zs q d p h e, ← ih, autP_step zs _ q h]
      simp only [Bool.and_eq_true, beq_iff_eq, Bool.not_eq_true'] at e
      obtain ⟨e1, rfl⟩ := e
      rw [e1, cls_dot]
      have k : stp (st s0 d false) 2 = st s0 d true := by
        unfold st
        by_cases hd : d = 0
        · simp only [hd, if_true]
          rcases h0 with rfl | rfl <;> decide
        · simp only [hd, if_false]; decide
      rw [k, if_neg (by unfold st; split <;> simp)]
    · have e' : (nth zs q == 46 && !p) = false := by simpa using e
      by_cases hd : dgt (nth zs q) = true
      · rw [scP_dig zs q d p h e' hd, ← ih, autP_step zs _ q h, cls_dig hd]
        have k : stp (st s0 d p) 0 = st s0 (d + 1) p := by
          unfold st
          by_cases hz : d = 0
          · simp only [hz, if_true]
            cases p
            · rcases h0 with rfl | rfl <;> decide
            · simp [stp]
          · simp only [hz, if_false]
            cases p
            · simp [stp]
            · simp [stp]
        rw [k, if_neg (by unfold st; simp; split <;> omega)]
      · rw [scP_stop zs q d p h e' (by simpa using hd)]

/-- Once met, the point stays. -/
theorem scP_true (zs : List Int) (q d : Nat) (_h : q ≤ zs.length) : (scP zs q d true).2.2 = true := by
  have key : ∀ l d, (sc l d true).2.2 = true := by
    intro l
    induction l with
    | nil => intro d; rfl
    | cons c l ih =>
      intro d
      rw [sc, if_neg (by simp)]
      split
      · exact ih _
      · rfl
  exact key _ _

/-- Where the mantissa's scan stops. -/
theorem scP_stops (zs : List Int) : ∀ q, q ≤ zs.length → ∀ d p, (q ≤ (scP zs q d p).1 ∧ (scP zs q d p).1 ≤ zs.length) ∧ d ≤ (scP zs q d p).2.1 ∧ ((scP zs q d p).2.1 = d → (scP zs q d p).2.2 = p → (scP zs q d p).1 = q) ∧
    ((scP zs q d p).1 < zs.length → dgt (nth zs (scP zs q d p).1) = false ∧ (nth zs (scP zs q d p).1 == 46 && !(scP zs q d p).2.2) = false) := by
  apply left_ind
  · intro d p; rw [scP_end zs _ d p (Nat.le_refl _)]
    exact ⟨⟨Nat.le_refl _, Nat.le_refl _⟩, Nat.le_refl _, fun _ _ => rfl, fun h => absurd h (Nat.lt_irrefl _)⟩
  · intro q h ih d p
    by_cases e : (nth zs q == 46 && !p) = true
    · rw [scP_dot zs q d p h e]
      obtain ⟨i1, i2, i3, i4⟩ := ih d true
      refine ⟨⟨by omega, i1.2⟩, i2, ?_, i4⟩
      intro k1 k2
      exfalso
      have hp : p = false := by
        simp only [Bool.and_eq_true, Bool.not_eq_true'] at e; exact e.2
      have := i4
      subst hp
      have hq := scP_true zs (q + 1) d h
      rw [k2] at hq; cases hq
    · have e' : (nth zs q == 46 && !p) = false := by simpa using e
      by_cases hd : dgt (nth zs q) = true
      · rw [scP_dig zs q d p h e' hd]
        obtain ⟨i1, i2, i3, i4⟩ := ih (d + 1) p
        exact ⟨⟨by omega, i1.2⟩, by omega, fun k => by omega, i4⟩
      · have hf : dgt (nth zs q) = false := by simpa using hd
        rw [scP_stop zs q d p h e' hf]
        exact ⟨⟨Nat.le_refl _, by show q ≤ zs.length; omega⟩, Nat.le_refl _, fun _ _ => rfl, fun _ => ⟨hf, e'⟩⟩

/-- THE PLAIN LAW. -/
theorem law (fl : Bool) (zs : List Int) : acc fl (autP zs 0 0) = isN fl zs := by
  obtain ⟨s0, hs0, hs1, hs2⟩ : ∃ s0 : Int, (s0 = 0 ∨ s0 = 1) ∧ autP zs 0 0 = autP zs s0 (sgn zs 0) ∧ (s0 = 0 → sgn zs 0 = 0 ∧ at2 zs 0 43 45 = false) := by
    unfold sgn
    by_cases hs : at2 zs 0 43 45 = true
    · obtain ⟨hl, hc⟩ := at2_in hs
      have hp : pm (nth zs 0) = true := by
        rcases hc with k | k <;> rw [k] <;> decide
      refine ⟨1, Or.inr rfl, ?_, fun k => by cases k⟩
      rw [if_pos hs, autP_step zs 0 0 hl, cls_pm hp]
      rfl
    · exact ⟨0, Or.inl rfl, by rw [if_neg hs], fun _ => ⟨by rw [if_neg hs], by simpa using hs⟩⟩
  have hi1 : sgn zs 0 ≤ zs.length := by
    unfold sgn
    by_cases hs : at2 zs 0 43 45 = true
    · rw [if_pos hs]; have := (at2_in hs).1; omega
    · rw [if_neg hs]; omega
  have hm := mant zs s0 hs0 (sgn zs 0) hi1 0 false
  have hst := scP_stops zs (sgn zs 0) hi1 0 false
  rw [hs1]
  have e0 : st s0 0 false = s0 := rfl
  rw [e0] at hm
  rw [hm]
  unfold isN
  obtain ⟨i, d, p, hT⟩ : ∃ i d p, scP zs (sgn zs 0) 0 false = (i, d, p) := ⟨_, _, _, rfl⟩
  rw [hT] at hst ⊢
  simp only at hst ⊢
  obtain ⟨⟨j1, j2⟩, -, j3, j4⟩ := hst
  by_cases hd : d = 0
  · rw [if_pos hd]
    subst hd
    by_cases hl : i < zs.length
    · obtain ⟨n1, n2⟩ := j4 hl
      rw [autP_step zs _ i hl]
      have k : stp (st s0 0 p) (cls (nth zs i)) = -1 := by
        cases p with
        | true =>
          show stp 3 _ = -1
          simp only [stp]; simp [(cls_nz n1).1]
        | false =>
          have n3 : nth zs i ≠ 46 := by
            simp only [Bool.not_false, Bool.and_true, beq_eq_false_iff_ne] at n2; exact n2
          show stp s0 _ = -1
          rcases hs0 with rfl | rfl
          · have hz := hs2 rfl
            have hi : i = 0 := by rw [j3 rfl rfl]; exact hz.1
            subst hi
            have hp : pm (nth zs 0) = false := by
              by_cases q : pm (nth zs 0) = true
              · exfalso
                simp only [pm, Bool.or_eq_true, beq_iff_eq] at q
                have h2 := hz.2
                rcases q with q | q
                · rw [at2_of1 hl q] at h2; cases h2
                · rw [at2_of2 hl q] at h2; cases h2
              · simpa using q
            simp only [stp]; simp [(cls_nz n1).1, (cls_nz n1).2.1 hp, (cls_nz n1).2.2.1 n3]
          · simp only [stp]; simp [(cls_nz n1).1, (cls_nz n1).2.2.1 n3]
      rw [k, if_pos (by omega), acc_dead]
    · rw [autP_end zs _ i (by omega)]
      unfold st
      cases p with
      | true => exact acc_low fl 3 (by omega)
      | false => exact acc_low fl s0 (by omega)
  · rw [if_neg hd]
    have hs : st s0 d p = if p then 4 else 2 := by unfold st; rw [if_neg hd]
    rw [hs]
    unfold fin
    by_cases hl : i < zs.length
    · obtain ⟨n1, n2⟩ := j4 hl
      rw [autP_step zs _ i hl]
      by_cases he : at2 zs i 101 69 = true
      · have hE : eE (nth zs i) = true := by
          rcases (at2_in he).2 with k | k <;> rw [k] <;> decide
        rw [if_pos he, cls_e hE, ← aut5 fl zs (i + 1) (by omega)]
        cases p <;> rfl
      · have hE : eE (nth zs i) = false := by
          by_cases q : eE (nth zs i) = true
          · exfalso
            simp only [eE, Bool.or_eq_true, beq_iff_eq] at q
            rcases q with q | q
            · exact he (at2_of1 hl q)
            · exact he (at2_of2 hl q)
          · simpa using q
        have k : stp (if p then 4 else 2) (cls (nth zs i)) = -1 := by
          cases p with
          | true =>
            show stp 4 _ = -1
            simp only [stp]; simp [(cls_nz n1).1, (cls_nz n1).2.2.2 hE]
          | false =>
            have n3 : nth zs i ≠ 46 := by
              simp only [Bool.not_false, Bool.and_true, beq_eq_false_iff_ne] at n2; exact n2
            show stp 2 _ = -1
            simp only [stp]; simp [(cls_nz n1).1, (cls_nz n1).2.2.1 n3, (cls_nz n1).2.2.2 hE]
        rw [k, if_pos (by omega), acc_dead, if_neg he]
        have hne : (i == zs.length) = false := by simp; omega
        rw [hne]; rfl
    · have e : i = zs.length := by omega
      rw [autP_end zs _ i (by omega), at2_out (by omega), e]
      cases p <;> cases fl <;> simp [acc]
end Go.Proofs.Qxb6603032a.Plain
