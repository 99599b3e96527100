import Derived.Test.Qxb6602928aNumLaw
namespace Go.Proofs.Qxb6602928a.Num
open Go.ChangeShapes Go.WideShapes Go.ChangeAt Go.RowKit
open Clone Decoder

theorem ret_int {k : IntKind} {a b : Int} (h : a = b) : Ending.returned (.int k a) = .returned (.int k b) := by rw [h]

theorem dead_0 (c : Int) (hd : ¬ (48 ≤ c ∧ c ≤ 57)) (n45 : (c == 45) = false) (n48 : (c == 48) = false) : step 0 c = -1 := by
  have m45 : ¬ c = 45 := by simpa using n45
  have m48 : ¬ c = 48 := by simpa using n48
  have hf : dgt c = false := by simp only [dgt, Bool.and_eq_false_iff, decide_eq_false_iff_not]; omega
  simp only [step]; simp [hf, m45, m48]
theorem step_of0d (c : Int) (d1 : 48 ≤ c) (d2 : c ≤ 57) (n45 : (c == 45) = false) (n48 : (c == 48) = false) : step 0 c = 3 := by
  have m45 : ¬ c = 45 := by simpa using n45
  have m48 : ¬ c = 48 := by simpa using n48
  have hd : dgt c = true := by simp [dgt, d1, d2]
  simp only [step]; simp [hd, m45, m48]
set_option maxHeartbeats 800000 in
theorem step_0 (c : Int) (w : World) : Calls Try.prog 25 #[.int .i64 0, .int .u8 c] w fun e w' => e = .returned (.int .i64 (step 0 c)) ∧ w = w' := by
  by_cases h : c = 45
  · subst h
    have HS : Hid (step 0 45 = 1) := by show step 0 45 = 1; decide
    go_enter Try.func25, Try.ntmps25
    go_wp2
    go_ret
    exact ⟨ret_int HS.out.symm, rfl⟩
  have n45 : (c == 45) = false := by simpa using h
  clear h
  by_cases h : c = 48
  · subst h
    have HS : Hid (step 0 48 = 2) := by show step 0 48 = 2; decide
    go_enter Try.func25, Try.ntmps25
    go_wp2
    go_ret
    exact ⟨ret_int HS.out.symm, rfl⟩
  have n48 : (c == 48) = false := by simpa using h
  clear h
  by_cases hd : 48 ≤ c ∧ c ≤ 57
  · obtain ⟨d1, d2⟩ := hd
    have HS : Hid (step 0 c = 3) := step_of0d c d1 d2 n45 n48
    go_enter Try.func25, Try.ntmps25
    go_wp2
    go_ret
    exact ⟨ret_int HS.out.symm, rfl⟩
  have HS : Hid (step 0 c = -1) := dead_0 c hd n45 n48
  by_cases dl : c < 48
  · clear hd
    go_enter Try.func25, Try.ntmps25
    go_wp2
    go_ret
    exact ⟨ret_int HS.out.symm, rfl⟩
  · have d1 : 48 ≤ c := by omega
    have d2 : 57 < c := by omega
    clear hd dl
    go_enter Try.func25, Try.ntmps25
    go_wp2
    go_ret
    exact ⟨ret_int HS.out.symm, rfl⟩

theorem dead_1 (c : Int) (hd : ¬ (48 ≤ c ∧ c ≤ 57)) (n48 : (c == 48) = false) : step 1 c = -1 := by
  have m48 : ¬ c = 48 := by simpa using n48
  have hf : dgt c = false := by simp only [dgt, Bool.and_eq_false_iff, decide_eq_false_iff_not]; omega
  simp only [step]; simp [hf, m48]
theorem step_of1d (c : Int) (d1 : 48 ≤ c) (d2 : c ≤ 57) (n48 : (c == 48) = false) : step 1 c = 3 := by
  have m48 : ¬ c = 48 := by simpa using n48
  have hd : dgt c = true := by simp [dgt, d1, d2]
  simp only [step]; simp [hd, m48]
set_option maxHeartbeats 800000 in
theorem step_1 (c : Int) (w : World) : Calls Try.prog 25 #[.int .i64 1, .int .u8 c] w fun e w' => e = .returned (.int .i64 (step 1 c)) ∧ w = w' := by
  by_cases h : c = 48
  · subst h
    have HS : Hid (step 1 48 = 2) := by show step 1 48 = 2; decide
    go_enter Try.func25, Try.ntmps25
    go_wp2
    go_ret
    exact ⟨ret_int HS.out.symm, rfl⟩
  have n48 : (c == 48) = false := by simpa using h
  clear h
  by_cases hd : 48 ≤ c ∧ c ≤ 57
  · obtain ⟨d1, d2⟩ := hd
    have HS : Hid (step 1 c = 3) := step_of1d c d1 d2 n48
    go_enter Try.func25, Try.ntmps25
    go_wp2
    go_ret
    exact ⟨ret_int HS.out.symm, rfl⟩
  have HS : Hid (step 1 c = -1) := dead_1 c hd n48
  by_cases dl : c < 48
  · clear hd
    go_enter Try.func25, Try.ntmps25
    go_wp2
    go_ret
    exact ⟨ret_int HS.out.symm, rfl⟩
  · have d1 : 48 ≤ c := by omega
    have d2 : 57 < c := by omega
    clear hd dl
    go_enter Try.func25, Try.ntmps25
    go_wp2
    go_ret
    exact ⟨ret_int HS.out.symm, rfl⟩

theorem dead_2 (c : Int) (n46 : (c == 46) = false) (n101 : (c == 101) = false) (n69 : (c == 69) = false) : step 2 c = -1 := by
  have m46 : ¬ c = 46 := by simpa using n46
  have m101 : ¬ c = 101 := by simpa using n101
  have m69 : ¬ c = 69 := by simpa using n69
  have he : eE c = false := by simp [eE, m101, m69]
  simp only [step]; simp [he, m46]
set_option maxHeartbeats 800000 in
theorem step_2 (c : Int) (w : World) : Calls Try.prog 25 #[.int .i64 2, .int .u8 c] w fun e w' => e = .returned (.int .i64 (step 2 c)) ∧ w = w' := by
  by_cases h : c = 46
  · subst h
    have HS : Hid (step 2 46 = 4) := by show step 2 46 = 4; decide
    go_enter Try.func25, Try.ntmps25
    go_wp2
    go_ret
    exact ⟨ret_int HS.out.symm, rfl⟩
  have n46 : (c == 46) = false := by simpa using h
  clear h
  by_cases h : c = 101
  · subst h
    have HS : Hid (step 2 101 = 6) := by show step 2 101 = 6; decide
    go_enter Try.func25, Try.ntmps25
    go_wp2
    go_ret
    exact ⟨ret_int HS.out.symm, rfl⟩
  have n101 : (c == 101) = false := by simpa using h
  clear h
  by_cases h : c = 69
  · subst h
    have HS : Hid (step 2 69 = 6) := by show step 2 69 = 6; decide
    go_enter Try.func25, Try.ntmps25
    go_wp2
    go_ret
    exact ⟨ret_int HS.out.symm, rfl⟩
  have n69 : (c == 69) = false := by simpa using h
  clear h
  have HS : Hid (step 2 c = -1) := dead_2 c n46 n101 n69
  go_enter Try.func25, Try.ntmps25
  go_wp2
  go_ret
  exact ⟨ret_int HS.out.symm, rfl⟩

theorem dead_3 (c : Int) (hd : ¬ (48 ≤ c ∧ c ≤ 57)) (n46 : (c == 46) = false) (n101 : (c == 101) = false) (n69 : (c == 69) = false) : step 3 c = -1 := by
  have m46 : ¬ c = 46 := by simpa using n46
  have m101 : ¬ c = 101 := by simpa using n101
  have m69 : ¬ c = 69 := by simpa using n69
  have hf : dgt c = false := by simp only [dgt, Bool.and_eq_false_iff, decide_eq_false_iff_not]; omega
  have he : eE c = false := by simp [eE, m101, m69]
  simp only [step]; simp [hf, he, m46]
theorem step_of3d (c : Int) (d1 : 48 ≤ c) (d2 : c ≤ 57)  : step 3 c = 3 := by
  have hd : dgt c = true := by simp [dgt, d1, d2]
  simp only [step]; simp [hd]
set_option maxHeartbeats 800000 in
theorem step_3 (c : Int) (w : World) : Calls Try.prog 25 #[.int .i64 3, .int .u8 c] w fun e w' => e = .returned (.int .i64 (step 3 c)) ∧ w = w' := by
  by_cases hd : 48 ≤ c ∧ c ≤ 57
  · obtain ⟨d1, d2⟩ := hd
    have HS : Hid (step 3 c = 3) := step_of3d c d1 d2 
    go_enter Try.func25, Try.ntmps25
    go_wp2
    go_ret
    exact ⟨ret_int HS.out.symm, rfl⟩
  by_cases h : c = 46
  · subst h
    have HS : Hid (step 3 46 = 4) := by show step 3 46 = 4; decide
    go_enter Try.func25, Try.ntmps25
    go_wp2
    go_ret
    exact ⟨ret_int HS.out.symm, rfl⟩
  have n46 : (c == 46) = false := by simpa using h
  clear h
  by_cases h : c = 101
  · subst h
    have HS : Hid (step 3 101 = 6) := by show step 3 101 = 6; decide
    go_enter Try.func25, Try.ntmps25
    go_wp2
    go_ret
    exact ⟨ret_int HS.out.symm, rfl⟩
  have n101 : (c == 101) = false := by simpa using h
  clear h
  by_cases h : c = 69
  · subst h
    have HS : Hid (step 3 69 = 6) := by show step 3 69 = 6; decide
    go_enter Try.func25, Try.ntmps25
    go_wp2
    go_ret
    exact ⟨ret_int HS.out.symm, rfl⟩
  have n69 : (c == 69) = false := by simpa using h
  clear h
  have HS : Hid (step 3 c = -1) := dead_3 c hd n46 n101 n69
  by_cases dl : c < 48
  · clear hd
    go_enter Try.func25, Try.ntmps25
    go_wp2
    go_ret
    exact ⟨ret_int HS.out.symm, rfl⟩
  · have d1 : 48 ≤ c := by omega
    have d2 : 57 < c := by omega
    clear hd dl
    go_enter Try.func25, Try.ntmps25
    go_wp2
    go_ret
    exact ⟨ret_int HS.out.symm, rfl⟩

theorem dead_4 (c : Int) (hd : ¬ (48 ≤ c ∧ c ≤ 57))  : step 4 c = -1 := by
  have hf : dgt c = false := by simp only [dgt, Bool.and_eq_false_iff, decide_eq_false_iff_not]; omega
  simp only [step]; simp [hf]
theorem step_of4d (c : Int) (d1 : 48 ≤ c) (d2 : c ≤ 57)  : step 4 c = 5 := by
  have hd : dgt c = true := by simp [dgt, d1, d2]
  simp only [step]; simp [hd]
set_option maxHeartbeats 800000 in
theorem step_4 (c : Int) (w : World) : Calls Try.prog 25 #[.int .i64 4, .int .u8 c] w fun e w' => e = .returned (.int .i64 (step 4 c)) ∧ w = w' := by
  by_cases hd : 48 ≤ c ∧ c ≤ 57
  · obtain ⟨d1, d2⟩ := hd
    have HS : Hid (step 4 c = 5) := step_of4d c d1 d2 
    go_enter Try.func25, Try.ntmps25
    go_wp2
    go_ret
    exact ⟨ret_int HS.out.symm, rfl⟩
  have HS : Hid (step 4 c = -1) := dead_4 c hd 
  by_cases dl : c < 48
  · clear hd
    go_enter Try.func25, Try.ntmps25
    go_wp2
    go_ret
    exact ⟨ret_int HS.out.symm, rfl⟩
  · have d1 : 48 ≤ c := by omega
    have d2 : 57 < c := by omega
    clear hd dl
    go_enter Try.func25, Try.ntmps25
    go_wp2
    go_ret
    exact ⟨ret_int HS.out.symm, rfl⟩

theorem dead_5 (c : Int) (hd : ¬ (48 ≤ c ∧ c ≤ 57)) (n101 : (c == 101) = false) (n69 : (c == 69) = false) : step 5 c = -1 := by
  have m101 : ¬ c = 101 := by simpa using n101
  have m69 : ¬ c = 69 := by simpa using n69
  have hf : dgt c = false := by simp only [dgt, Bool.and_eq_false_iff, decide_eq_false_iff_not]; omega
  have he : eE c = false := by simp [eE, m101, m69]
  simp only [step]; simp [hf, he]
theorem step_of5d (c : Int) (d1 : 48 ≤ c) (d2 : c ≤ 57)  : step 5 c = 5 := by
  have hd : dgt c = true := by simp [dgt, d1, d2]
  simp only [step]; simp [hd]
set_option maxHeartbeats 800000 in
theorem step_5 (c : Int) (w : World) : Calls Try.prog 25 #[.int .i64 5, .int .u8 c] w fun e w' => e = .returned (.int .i64 (step 5 c)) ∧ w = w' := by
  by_cases hd : 48 ≤ c ∧ c ≤ 57
  · obtain ⟨d1, d2⟩ := hd
    have HS : Hid (step 5 c = 5) := step_of5d c d1 d2 
    go_enter Try.func25, Try.ntmps25
    go_wp2
    go_ret
    exact ⟨ret_int HS.out.symm, rfl⟩
  by_cases h : c = 101
  · subst h
    have HS : Hid (step 5 101 = 6) := by show step 5 101 = 6; decide
    go_enter Try.func25, Try.ntmps25
    go_wp2
    go_ret
    exact ⟨ret_int HS.out.symm, rfl⟩
  have n101 : (c == 101) = false := by simpa using h
  clear h
  by_cases h : c = 69
  · subst h
    have HS : Hid (step 5 69 = 6) := by show step 5 69 = 6; decide
    go_enter Try.func25, Try.ntmps25
    go_wp2
    go_ret
    exact ⟨ret_int HS.out.symm, rfl⟩
  have n69 : (c == 69) = false := by simpa using h
  clear h
  have HS : Hid (step 5 c = -1) := dead_5 c hd n101 n69
  by_cases dl : c < 48
  · clear hd
    go_enter Try.func25, Try.ntmps25
    go_wp2
    go_ret
    exact ⟨ret_int HS.out.symm, rfl⟩
  · have d1 : 48 ≤ c := by omega
    have d2 : 57 < c := by omega
    clear hd dl
    go_enter Try.func25, Try.ntmps25
    go_wp2
    go_ret
    exact ⟨ret_int HS.out.symm, rfl⟩

theorem dead_6 (c : Int) (hd : ¬ (48 ≤ c ∧ c ≤ 57)) (n43 : (c == 43) = false) (n45 : (c == 45) = false) : step 6 c = -1 := by
  have m43 : ¬ c = 43 := by simpa using n43
  have m45 : ¬ c = 45 := by simpa using n45
  have hf : dgt c = false := by simp only [dgt, Bool.and_eq_false_iff, decide_eq_false_iff_not]; omega
  have hs : pm c = false := by simp [pm, m43, m45]
  simp only [step]; simp [hf, hs]
theorem step_of6d (c : Int) (d1 : 48 ≤ c) (d2 : c ≤ 57) (n43 : (c == 43) = false) (n45 : (c == 45) = false) : step 6 c = 8 := by
  have m43 : ¬ c = 43 := by simpa using n43
  have m45 : ¬ c = 45 := by simpa using n45
  have hs : pm c = false := by simp [pm, m43, m45]
  have hd : dgt c = true := by simp [dgt, d1, d2]
  simp only [step]; simp [hd, hs]
set_option maxHeartbeats 800000 in
theorem step_6 (c : Int) (w : World) : Calls Try.prog 25 #[.int .i64 6, .int .u8 c] w fun e w' => e = .returned (.int .i64 (step 6 c)) ∧ w = w' := by
  by_cases h : c = 43
  · subst h
    have HS : Hid (step 6 43 = 7) := by show step 6 43 = 7; decide
    go_enter Try.func25, Try.ntmps25
    go_wp2
    go_ret
    exact ⟨ret_int HS.out.symm, rfl⟩
  have n43 : (c == 43) = false := by simpa using h
  clear h
  by_cases h : c = 45
  · subst h
    have HS : Hid (step 6 45 = 7) := by show step 6 45 = 7; decide
    go_enter Try.func25, Try.ntmps25
    go_wp2
    go_ret
    exact ⟨ret_int HS.out.symm, rfl⟩
  have n45 : (c == 45) = false := by simpa using h
  clear h
  by_cases hd : 48 ≤ c ∧ c ≤ 57
  · obtain ⟨d1, d2⟩ := hd
    have HS : Hid (step 6 c = 8) := step_of6d c d1 d2 n43 n45
    go_enter Try.func25, Try.ntmps25
    go_wp2
    go_ret
    exact ⟨ret_int HS.out.symm, rfl⟩
  have HS : Hid (step 6 c = -1) := dead_6 c hd n43 n45
  by_cases dl : c < 48
  · clear hd
    go_enter Try.func25, Try.ntmps25
    go_wp2
    go_ret
    exact ⟨ret_int HS.out.symm, rfl⟩
  · have d1 : 48 ≤ c := by omega
    have d2 : 57 < c := by omega
    clear hd dl
    go_enter Try.func25, Try.ntmps25
    go_wp2
    go_ret
    exact ⟨ret_int HS.out.symm, rfl⟩

theorem dead_7 (c : Int) (hd : ¬ (48 ≤ c ∧ c ≤ 57))  : step 7 c = -1 := by
  have hf : dgt c = false := by simp only [dgt, Bool.and_eq_false_iff, decide_eq_false_iff_not]; omega
  simp only [step]; simp [hf]
theorem step_of7d (c : Int) (d1 : 48 ≤ c) (d2 : c ≤ 57)  : step 7 c = 8 := by
  have hd : dgt c = true := by simp [dgt, d1, d2]
  simp only [step]; simp [hd]
set_option maxHeartbeats 800000 in
theorem step_7 (c : Int) (w : World) : Calls Try.prog 25 #[.int .i64 7, .int .u8 c] w fun e w' => e = .returned (.int .i64 (step 7 c)) ∧ w = w' := by
  by_cases hd : 48 ≤ c ∧ c ≤ 57
  · obtain ⟨d1, d2⟩ := hd
    have HS : Hid (step 7 c = 8) := step_of7d c d1 d2 
    go_enter Try.func25, Try.ntmps25
    go_wp2
    go_ret
    exact ⟨ret_int HS.out.symm, rfl⟩
  have HS : Hid (step 7 c = -1) := dead_7 c hd 
  by_cases dl : c < 48
  · clear hd
    go_enter Try.func25, Try.ntmps25
    go_wp2
    go_ret
    exact ⟨ret_int HS.out.symm, rfl⟩
  · have d1 : 48 ≤ c := by omega
    have d2 : 57 < c := by omega
    clear hd dl
    go_enter Try.func25, Try.ntmps25
    go_wp2
    go_ret
    exact ⟨ret_int HS.out.symm, rfl⟩

theorem dead_8 (c : Int) (hd : ¬ (48 ≤ c ∧ c ≤ 57))  : step 8 c = -1 := by
  have hf : dgt c = false := by simp only [dgt, Bool.and_eq_false_iff, decide_eq_false_iff_not]; omega
  simp only [step]; simp [hf]
theorem step_of8d (c : Int) (d1 : 48 ≤ c) (d2 : c ≤ 57)  : step 8 c = 8 := by
  have hd : dgt c = true := by simp [dgt, d1, d2]
  simp only [step]; simp [hd]
set_option maxHeartbeats 800000 in
theorem step_8 (c : Int) (w : World) : Calls Try.prog 25 #[.int .i64 8, .int .u8 c] w fun e w' => e = .returned (.int .i64 (step 8 c)) ∧ w = w' := by
  by_cases hd : 48 ≤ c ∧ c ≤ 57
  · obtain ⟨d1, d2⟩ := hd
    have HS : Hid (step 8 c = 8) := step_of8d c d1 d2 
    go_enter Try.func25, Try.ntmps25
    go_wp2
    go_ret
    exact ⟨ret_int HS.out.symm, rfl⟩
  have HS : Hid (step 8 c = -1) := dead_8 c hd 
  by_cases dl : c < 48
  · clear hd
    go_enter Try.func25, Try.ntmps25
    go_wp2
    go_ret
    exact ⟨ret_int HS.out.symm, rfl⟩
  · have d1 : 48 ≤ c := by omega
    have d2 : 57 < c := by omega
    clear hd dl
    go_enter Try.func25, Try.ntmps25
    go_wp2
    go_ret
    exact ⟨ret_int HS.out.symm, rfl⟩

theorem step_any (s c : Int) (h0 : 0 ≤ s) (h1 : s ≤ 8) (w : World) : Calls Try.prog 25 #[.int .i64 s, .int .u8 c] w fun e w' => e = .returned (.int .i64 (step s c)) ∧ w = w' := by
  have h : s = 0 ∨ s = 1 ∨ s = 2 ∨ s = 3 ∨ s = 4 ∨ s = 5 ∨ s = 6 ∨ s = 7 ∨ s = 8 := by omega
  rcases h with rfl | rfl | rfl | rfl | rfl | rfl | rfl | rfl | rfl
  · exact step_0 c w
  · exact step_1 c w
  · exact step_2 c w
  · exact step_3 c w
  · exact step_4 c w
  · exact step_5 c w
  · exact step_6 c w
  · exact step_7 c w
  · exact step_8 c w

theorem step_bd (s c : Int) : -1 ≤ step s c ∧ step s c ≤ 8 := by
  unfold step
  repeat' split
  all_goals omega

set_option maxHeartbeats 400000 in
theorem acc_any (s : Int) (h0 : 0 ≤ s) (h1 : s ≤ 8) (w : World) : Calls Try.prog 26 #[.int .i64 s] w fun e w' => e = .returned (.bool (acc s)) ∧ w = w' := by
  have h : s = 0 ∨ s = 1 ∨ s = 2 ∨ s = 3 ∨ s = 4 ∨ s = 5 ∨ s = 6 ∨ s = 7 ∨ s = 8 := by omega
  clear h0 h1
  rcases h with rfl | rfl | rfl | rfl | rfl | rfl | rfl | rfl | rfl
  all_goals
    go_enter Try.func26, Try.ntmps26
    go_wp2
    go_ret
    exact ⟨rfl, rfl⟩
end Go.Proofs.Qxb6602928a.Num
