import Derived.Test.Qxb6602928aNumPlain
namespace Go.Proofs.Qxb6602928a.Num

def runP (zs : List Int) (s : Int) (q : Nat) : Nat × Int := (q + (run s (zs.drop q)).1, (run s (zs.drop q)).2)

theorem runP_end (zs : List Int) (s : Int) (q : Nat) (h : zs.length ≤ q) : runP zs s q = (q, s) := by
  unfold runP
  rw [List.drop_eq_nil_of_le h]
  rfl

theorem runP_step (zs : List Int) (s : Int) (q : Nat) (h : q < zs.length) : runP zs s q = if step s (nth zs q) < 0 then (q, s) else runP zs (step s (nth zs q)) (q + 1) := by
  unfold runP
  rw [drop_cons zs q h, run]
  split
  · rfl
  · simp only [Prod.mk.injEq, and_true]; omega

/-- An induction on how much is left. -/
theorem left_ind (zs : List Int) (C : Nat → Prop) (h0 : C zs.length) (h1 : ∀ q, q < zs.length → C (q + 1) → C q) : ∀ q, q ≤ zs.length → C q := by
  have key : ∀ n q, q + n = zs.length → C q := by
    intro n
    induction n with
    | zero => intro q hq; have : q = zs.length := by omega
              rw [this]; exact h0
    | succ n ih => intro q hq; exact h1 q (by omega) (ih (q + 1) (by omega))
  exact fun q hq => key (zs.length - q) q (by omega)

theorem dg_stop (zs : List Int) : ∀ q, q ≤ zs.length → (dg zs q = zs.length ∨ (dg zs q < zs.length ∧ dgt (nth zs (dg zs q)) = false)) := by
  apply left_ind
  · rw [dg_end]; exact Or.inl rfl
  · intro q h ih
    by_cases hd : dgt (nth zs q) = true
    · rw [← dg_yes zs q h hd]; exact ih
    · rw [dg_no zs q h (by simpa using hd)]
      exact Or.inr ⟨h, by simpa using hd⟩

/-- In the states 3, 5, 8 the digits are passed over. -/
theorem runP_digits (zs : List Int) (s : Int) (hs : ∀ c, dgt c = true → step s c = s) (h0 : 0 ≤ s) : ∀ q, q ≤ zs.length → runP zs s q = runP zs s (dg zs q) := by
  apply left_ind
  · rw [dg_end]
  · intro q h ih
    by_cases hd : dgt (nth zs q) = true
    · rw [runP_step zs s q h, hs _ hd, if_neg (by omega), ← dg_yes zs q h hd]; exact ih
    · rw [dg_no zs q h (by simpa using hd)]

theorem step3 (c : Int) (h : dgt c = true) : step 3 c = 3 := by simp [step, h]
theorem step5 (c : Int) (h : dgt c = true) : step 5 c = 5 := by simp [step, h]
theorem step8 (c : Int) (h : dgt c = true) : step 8 c = 8 := by simp [step, h]

theorem run8 (zs : List Int) (q : Nat) (hq : q ≤ zs.length) : runP zs 8 q = (dg zs q, 8) := by
  rw [runP_digits zs 8 step8 (by omega) q hq]
  rcases dg_stop zs q hq with h | ⟨h, hd⟩
  · exact runP_end zs 8 _ (by omega)
  · rw [runP_step zs 8 _ h]; simp [step, hd]

theorem first_digit (zs : List Int) (q : Nat) (hq : q < zs.length) : (q < dg zs q) ↔ dgt (nth zs q) = true := by
  by_cases hd : dgt (nth zs q) = true
  · have h1 := dg_yes zs q hq hd
    have h2 := (dg_le zs (q + 1) (by omega)).1
    exact ⟨fun _ => hd, fun _ => by omega⟩
  · have h1 := dg_no zs q hq (by simpa using hd)
    exact ⟨fun h => by omega, fun h => absurd h hd⟩

theorem run7 (zs : List Int) (q : Nat) (hq : q ≤ zs.length) : runP zs 7 q = if q < dg zs q then (dg zs q, 8) else (q, 7) := by
  by_cases h : q < zs.length
  · rw [runP_step zs 7 q h]
    by_cases hd : dgt (nth zs q) = true
    · rw [if_pos ((first_digit zs q h).2 hd)]
      have e : step 7 (nth zs q) = 8 := by simp only [step]; simp [hd]
      rw [e, if_neg (by omega), run8 zs (q + 1) (by omega), dg_yes zs q h hd]
    · rw [if_neg (fun k => hd ((first_digit zs q h).1 k))]
      have e : step 7 (nth zs q) = -1 := by simp only [step]; simp [hd]
      rw [e, if_pos (by omega)]
  · have e : q = zs.length := by omega
    rw [runP_end zs 7 q (by omega), e, dg_end, if_neg (by omega)]

theorem not_pm_digit {c : Int} (h : pm c = true) : dgt c = false := by
  simp only [pm, Bool.or_eq_true, beq_iff_eq] at h
  rcases h with rfl | rfl <;> decide

theorem atpm (zs : List Int) (q : Nat) (h : q < zs.length) : (atB zs q 43 || atB zs q 45) = pm (nth zs q) := by
  by_cases h1 : nth zs q = 43
  · rw [at_of h h1, h1]; rfl
  · rw [at_not h1 h]
    by_cases h2 : nth zs q = 45
    · rw [at_of h h2, h2]; rfl
    · rw [at_not h2 h]; simp only [pm, Bool.false_or]; symm; simp only [Bool.or_eq_false_iff, beq_eq_false_iff_ne]; exact ⟨h1, h2⟩

theorem ateE (zs : List Int) (q : Nat) (h : q < zs.length) : (atB zs q 101 || atB zs q 69) = eE (nth zs q) := by
  by_cases h1 : nth zs q = 101
  · rw [at_of h h1, h1]; rfl
  · rw [at_not h1 h]
    by_cases h2 : nth zs q = 69
    · rw [at_of h h2, h2]; rfl
    · rw [at_not h2 h]; simp only [eE, Bool.false_or]; symm; simp only [Bool.or_eq_false_iff, beq_eq_false_iff_ne]; exact ⟨h1, h2⟩

theorem run6 (zs : List Int) (q : Nat) (hq : q ≤ zs.length) :
    runP zs 6 q = (let r := if atB zs q 43 || atB zs q 45 then q + 1 else q
      (dg zs r, if r < dg zs r then 8 else if atB zs q 43 || atB zs q 45 then 7 else 6)) := by
  by_cases h : q < zs.length
  · rw [runP_step zs 6 q h, atpm zs q h]
    by_cases hp : pm (nth zs q) = true
    · have e : step 6 (nth zs q) = 7 := by simp only [step]; simp [hp]
      rw [e, if_neg (by omega), run7 zs (q + 1) (by omega)]
      simp only [hp, if_true]
      have := (dg_le zs (q + 1) (by omega)).1
      split
      · rfl
      · simp only [Prod.mk.injEq, and_true]; omega
    · have hp' : pm (nth zs q) = false := by simpa using hp
      simp only [hp']
      by_cases hd : dgt (nth zs q) = true
      · have e : step 6 (nth zs q) = 8 := by simp only [step]; simp [hp', hd]
        rw [e, if_neg (by omega), run8 zs (q + 1) (by omega), dg_yes zs q h hd]
        simp [(first_digit zs q h).2 hd]
      · have e : step 6 (nth zs q) = -1 := by simp only [step]; simp [hp', hd]
        rw [e, if_pos (by omega)]
        have e2 := dg_no zs q h (by simpa using hd)
        simp [e2]
  · have e : q = zs.length := by omega
    rw [runP_end zs 6 q (by omega), at_out (by omega), at_out (by omega)]
    simp [e, dg_end]

/-- At the exponent: a state that takes e, E to 6 and ends at all else, and that accepts. -/
theorem run_exp (zs : List Int) (s : Int) (q : Nat) (hq : q ≤ zs.length) (ha : acc s = true) (he : q < zs.length → step s (nth zs q) = if eE (nth zs q) then 6 else -1) :
    (runP zs s q).1 = (expP zs q).1 ∧ acc (runP zs s q).2 = (expP zs q).2 := by
  unfold expP
  by_cases h : q < zs.length
  · rw [runP_step zs s q h, he h, ateE zs q h]
    by_cases hx : eE (nth zs q) = true
    · simp only [hx, if_true]
      rw [if_neg (by omega), run6 zs (q + 1) (by omega)]
      refine ⟨rfl, ?_⟩
      show acc (if (if (atB zs (q + 1) 43 || atB zs (q + 1) 45) = true then q + 1 + 1 else q + 1) < dg zs (if (atB zs (q + 1) 43 || atB zs (q + 1) 45) = true then q + 1 + 1 else q + 1) then 8 else if (atB zs (q + 1) 43 || atB zs (q + 1) 45) = true then 7 else 6) = _
      by_cases hlt : (if (atB zs (q + 1) 43 || atB zs (q + 1) 45) = true then q + 1 + 1 else q + 1) < dg zs (if (atB zs (q + 1) 43 || atB zs (q + 1) 45) = true then q + 1 + 1 else q + 1)
      · rw [if_pos hlt]; exact (decide_eq_true hlt).symm
      · rw [if_neg hlt]
        refine Eq.trans ?_ (decide_eq_false hlt).symm
        split <;> rfl
    · have hx' : eE (nth zs q) = false := by simpa using hx
      simp [hx', ha]
  · rw [runP_end zs s q (by omega), at_out (by omega), at_out (by omega)]
    simp [ha]

theorem eE_not {c : Int} (h : eE c = true) : dgt c = false ∧ ¬ c = 46 := by
  simp only [eE, Bool.or_eq_true, beq_iff_eq] at h
  rcases h with rfl | rfl <;> decide

/-- The fraction. -/
theorem run_frac (zs : List Int) (s : Int) (q : Nat) (hq : q ≤ zs.length) (ha : acc s = true)
    (he : q < zs.length → step s (nth zs q) = if nth zs q = 46 then 4 else if eE (nth zs q) then 6 else -1) :
    (runP zs s q).1 = (fracP zs q).1 ∧ acc (runP zs s q).2 = (fracP zs q).2 := by
  unfold fracP
  by_cases h46 : atB zs q 46 = true
  · obtain ⟨hl, hc⟩ := at_in h46
    rw [if_pos h46, runP_step zs s q hl, he hl, if_pos hc, if_neg (by omega)]
    by_cases h1 : q + 1 < zs.length
    · rw [runP_step zs 4 (q + 1) h1]
      by_cases hd : dgt (nth zs (q + 1)) = true
      · have e : step 4 (nth zs (q + 1)) = 5 := by simp only [step]; simp [hd]
        rw [e, if_neg (by omega), if_pos ((first_digit zs (q + 1) h1).2 hd), runP_digits zs 5 step5 (by omega) (q + 1 + 1) (by omega), dg_yes zs (q + 1) h1 hd]
        refine run_exp zs 5 _ (dg_le zs (q + 1) (by omega)).2 (by decide) ?_
        intro hlt
        rcases dg_stop zs (q + 1) (by omega) with h | ⟨_, hn⟩
        · omega
        · simp only [step]; simp [hn]
      · have e : step 4 (nth zs (q + 1)) = -1 := by simp only [step]; simp [hd]
        rw [e, if_pos (by omega), if_neg (fun k => hd ((first_digit zs (q + 1) h1).1 k)), dg_no zs (q + 1) h1 (by simpa using hd)]
        exact ⟨rfl, rfl⟩
    · have e : q + 1 = zs.length := by omega
      rw [runP_end zs 4 (q + 1) (by omega), e, dg_end, if_neg (by omega)]
      exact ⟨rfl, rfl⟩
  · rw [if_neg h46]
    refine run_exp zs s q hq ha ?_
    intro hlt
    rw [he hlt, if_neg (fun k => h46 (at_of hlt k))]

/-- The first digits, from a state that knows no sign any more. -/
theorem run_int (zs : List Int) (s : Int) (q : Nat) (hq : q ≤ zs.length) (ha : acc s = false)
    (he : q < zs.length → step s (nth zs q) = if nth zs q = 48 then 2 else if dgt (nth zs q) then 3 else -1) :
    (runP zs s q).1 = (intP zs q).1 ∧ acc (runP zs s q).2 = (intP zs q).2 := by
  unfold intP
  by_cases h48 : atB zs q 48 = true
  · obtain ⟨hl, hc⟩ := at_in h48
    rw [if_pos h48, runP_step zs s q hl, he hl, if_pos hc, if_neg (by omega)]
    exact run_frac zs 2 (q + 1) (by omega) (by decide) (fun _ => by simp only [step]; simp)
  · rw [if_neg h48]
    by_cases h : q < zs.length
    · have hc : ¬ nth zs q = 48 := fun k => h48 (at_of h k)
      rw [runP_step zs s q h, he h, if_neg hc]
      by_cases hd : dgt (nth zs q) = true
      · have hb : 48 ≤ nth zs q ∧ nth zs q ≤ 57 := by simpa only [dgt, Bool.and_eq_true, decide_eq_true_eq] using hd
        rw [if_pos hd, if_neg (by omega), if_pos ⟨h, by omega, hb.2⟩, runP_digits zs 3 step3 (by omega) (q + 1) (by omega), dg_yes zs q h hd]
        refine run_frac zs 3 _ (dg_le zs q (by omega)).2 (by decide) ?_
        intro hlt
        rcases dg_stop zs q (by omega) with h' | ⟨_, hn⟩
        · omega
        · simp only [step]; simp [hn]
      · have hb : ¬ (q < zs.length ∧ 49 ≤ nth zs q ∧ nth zs q ≤ 57) := fun k => hd (by simp only [dgt, Bool.and_eq_true, decide_eq_true_eq]; omega)
        rw [if_neg hd, if_pos (by omega), if_neg hb]
        exact ⟨rfl, ha⟩
    · rw [runP_end zs s q (by omega), if_neg (fun k => h k.1)]
      exact ⟨rfl, ha⟩

/-- THE PLAIN LAW. -/
theorem num_law (zs : List Int) (p : Nat) (hp : p ≤ zs.length) : (runP zs 0 p).1 = (numP zs p).1 ∧ acc (runP zs 0 p).2 = (numP zs p).2 := by
  unfold numP
  by_cases h45 : atB zs p 45 = true
  · obtain ⟨hl, hc⟩ := at_in h45
    rw [if_pos h45, runP_step zs 0 p hl]
    have e : step 0 (nth zs p) = 1 := by rw [hc]; decide
    rw [e, if_neg (by omega)]
    exact run_int zs 1 (p + 1) (by omega) (by decide) (fun _ => by simp only [step]; simp)
  · rw [if_neg h45]
    refine run_int zs 0 p hp (by decide) ?_
    intro hlt
    have hc : ¬ nth zs p = 45 := fun k => h45 (at_of hlt k)
    simp only [step]; simp [hc]
end Go.Proofs.Qxb6602928a.Num
