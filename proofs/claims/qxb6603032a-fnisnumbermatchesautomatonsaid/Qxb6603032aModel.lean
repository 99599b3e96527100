import Derived.Test.Qxb6603032aPlain
import Derived.Test.Qxb6603032aClone
namespace Go.Proofs.Qxb6603032a.Model
open Go.ChangeShapes Go.WideShapes Go.ChangeAt Go.RowKit
open Clone Plain

theorem ret_int {k : IntKind} {a b : Int} (h : a = b) : Ending.returned (.int k a) = .returned (.int k b) := by rw [h]

/-- The bytes that a slice value leads to. -/
def Buf (w : World) (g : Nat) (zs : List Int) : Prop :=
  ∀ i, i < zs.length → w.cell? ⟨g, i, none⟩ = some (.int .u8 (nth zs i)) ∧ 0 ≤ nth zs i ∧ nth zs i ≤ 255

/-- The clone of a slice that is not nil, as bytes to read. -/
theorem clone_buf (w : World) (x : Addr) (len cap : Nat) (z0 : List Int) (hlen : len ≤ 1048576) (hl : len ≤ cap) (hz : z0.length = cap)
    (hc : ∀ i, i < z0.length → w.cell? (x.add i) = some (.int .u8 (z0.getD i 0))) (hw : ∀ n ∈ z0, (Lit.int .u8 n).wf = true) :
    ∃ zs : List Int, zs.length = len ∧ Calls Try.prog 8 #[.slice (some x) len cap] w fun e w' => e = .returned (.slice (some ⟨w.heap.size, 0, none⟩) len len) ∧
      Buf w' w.heap.size zs ∧ w.heap.size < w'.heap.size ∧ Below w.heap.size w w' := by
  refine ⟨z0.take len, by simp; omega, ?_⟩
  refine (clone_some w x len cap z0 hlen hl hz hc).mono ?_
  rintro e w' ⟨rfl, hown, hb⟩
  refine ⟨rfl, ?_, (own_lt hown).2, hb⟩
  intro i hi
  have hi' : i < len := by simp at hi; omega
  refine ⟨own_cell hown i hi', ?_⟩
  have e : nth (z0.take len) i = z0[i]'(by omega) := by simp [nth, hi', show i < z0.length by omega]
  rw [e]
  exact bounds_u8 (hw _ (List.getElem_mem _))

theorem cls_other (c : Int) (h : dgt c = false) (h1 : (c == 43) = false) (h2 : (c == 45) = false) (h3 : (c == 46) = false) (h4 : (c == 101) = false) (h5 : (c == 69) = false) : cls c = 4 := by
  simp [cls, h, pm, eE, h1, h2, h3, h4, h5]

set_option maxHeartbeats 800000 in
theorem class_any (c : Int) (w : World) : Calls Try.prog 19 #[.int .u8 c] w fun e w' => e = .returned (.int .i64 (cls c)) ∧ w = w' := by
  by_cases hd : 48 ≤ c ∧ c ≤ 57
  · obtain ⟨d1, d2⟩ := hd
    have HS : Hid (cls c = 0) := cls_dig (by simp [dgt, d1, d2])
    go_enter Try.func19, Try.ntmps19
    go_wp2
    go_ret
    exact ⟨ret_int HS.out.symm, rfl⟩
  have hf : dgt c = false := by simp only [dgt, Bool.and_eq_false_iff, decide_eq_false_iff_not]; omega
  by_cases h43 : c = 43
  · subst h43
    have HS : Hid (cls 43 = 1) := by show cls 43 = 1; decide
    clear hd hf
    go_enter Try.func19, Try.ntmps19
    go_wp2
    go_ret
    exact ⟨ret_int HS.out.symm, rfl⟩
  have n43 : (c == 43) = false := by simpa using h43
  clear h43
  by_cases h45 : c = 45
  · subst h45
    have HS : Hid (cls 45 = 1) := by show cls 45 = 1; decide
    clear hd hf
    go_enter Try.func19, Try.ntmps19
    go_wp2
    go_ret
    exact ⟨ret_int HS.out.symm, rfl⟩
  have n45 : (c == 45) = false := by simpa using h45
  clear h45
  by_cases h46 : c = 46
  · subst h46
    have HS : Hid (cls 46 = 2) := by show cls 46 = 2; decide
    clear hd hf
    go_enter Try.func19, Try.ntmps19
    go_wp2
    go_ret
    exact ⟨ret_int HS.out.symm, rfl⟩
  have n46 : (c == 46) = false := by simpa using h46
  clear h46
  by_cases h101 : c = 101
  · subst h101
    have HS : Hid (cls 101 = 3) := by show cls 101 = 3; decide
    clear hd hf
    go_enter Try.func19, Try.ntmps19
    go_wp2
    go_ret
    exact ⟨ret_int HS.out.symm, rfl⟩
  have n101 : (c == 101) = false := by simpa using h101
  clear h101
  by_cases h69 : c = 69
  · subst h69
    have HS : Hid (cls 69 = 3) := by show cls 69 = 3; decide
    clear hd hf
    go_enter Try.func19, Try.ntmps19
    go_wp2
    go_ret
    exact ⟨ret_int HS.out.symm, rfl⟩
  have n69 : (c == 69) = false := by simpa using h69
  clear h69
  have HS : Hid (cls c = 4) := cls_other c hf n43 n45 n46 n101 n69
  clear hf
  by_cases dlo : c < 48
  · clear hd
    go_enter Try.func19, Try.ntmps19
    go_wp2
    go_ret
    exact ⟨ret_int HS.out.symm, rfl⟩
  · have d1 : 48 ≤ c := by omega
    have d2 : 57 < c := by omega
    clear hd dlo
    go_enter Try.func19, Try.ntmps19
    go_wp2
    go_ret
    exact ⟨ret_int HS.out.symm, rfl⟩

set_option maxHeartbeats 800000 in
theorem step_0 (k : Int) (h : k = 0 ∨ k = 1 ∨ k = 2 ∨ k = 3 ∨ k = 4) (w : World) : Calls Try.prog 18 #[.int .i64 0, .int .i64 k] w fun e w' => e = .returned (.int .i64 (stp 0 k)) ∧ w = w' := by
  rcases h with rfl | rfl | rfl | rfl | rfl
  all_goals
    go_enter Try.func18, Try.ntmps18
    go_wp2
    go_ret
    exact ⟨rfl, rfl⟩

set_option maxHeartbeats 800000 in
theorem step_1 (k : Int) (h : k = 0 ∨ k = 1 ∨ k = 2 ∨ k = 3 ∨ k = 4) (w : World) : Calls Try.prog 18 #[.int .i64 1, .int .i64 k] w fun e w' => e = .returned (.int .i64 (stp 1 k)) ∧ w = w' := by
  rcases h with rfl | rfl | rfl | rfl | rfl
  all_goals
    go_enter Try.func18, Try.ntmps18
    go_wp2
    go_ret
    exact ⟨rfl, rfl⟩

set_option maxHeartbeats 800000 in
theorem step_2 (k : Int) (h : k = 0 ∨ k = 1 ∨ k = 2 ∨ k = 3 ∨ k = 4) (w : World) : Calls Try.prog 18 #[.int .i64 2, .int .i64 k] w fun e w' => e = .returned (.int .i64 (stp 2 k)) ∧ w = w' := by
  rcases h with rfl | rfl | rfl | rfl | rfl
  all_goals
    go_enter Try.func18, Try.ntmps18
    go_wp2
    go_ret
    exact ⟨rfl, rfl⟩

set_option maxHeartbeats 800000 in
theorem step_3 (k : Int) (h : k = 0 ∨ k = 1 ∨ k = 2 ∨ k = 3 ∨ k = 4) (w : World) : Calls Try.prog 18 #[.int .i64 3, .int .i64 k] w fun e w' => e = .returned (.int .i64 (stp 3 k)) ∧ w = w' := by
  rcases h with rfl | rfl | rfl | rfl | rfl
  all_goals
    go_enter Try.func18, Try.ntmps18
    go_wp2
    go_ret
    exact ⟨rfl, rfl⟩

set_option maxHeartbeats 800000 in
theorem step_4 (k : Int) (h : k = 0 ∨ k = 1 ∨ k = 2 ∨ k = 3 ∨ k = 4) (w : World) : Calls Try.prog 18 #[.int .i64 4, .int .i64 k] w fun e w' => e = .returned (.int .i64 (stp 4 k)) ∧ w = w' := by
  rcases h with rfl | rfl | rfl | rfl | rfl
  all_goals
    go_enter Try.func18, Try.ntmps18
    go_wp2
    go_ret
    exact ⟨rfl, rfl⟩

set_option maxHeartbeats 800000 in
theorem step_5 (k : Int) (h : k = 0 ∨ k = 1 ∨ k = 2 ∨ k = 3 ∨ k = 4) (w : World) : Calls Try.prog 18 #[.int .i64 5, .int .i64 k] w fun e w' => e = .returned (.int .i64 (stp 5 k)) ∧ w = w' := by
  rcases h with rfl | rfl | rfl | rfl | rfl
  all_goals
    go_enter Try.func18, Try.ntmps18
    go_wp2
    go_ret
    exact ⟨rfl, rfl⟩

set_option maxHeartbeats 800000 in
theorem step_6 (k : Int) (h : k = 0 ∨ k = 1 ∨ k = 2 ∨ k = 3 ∨ k = 4) (w : World) : Calls Try.prog 18 #[.int .i64 6, .int .i64 k] w fun e w' => e = .returned (.int .i64 (stp 6 k)) ∧ w = w' := by
  rcases h with rfl | rfl | rfl | rfl | rfl
  all_goals
    go_enter Try.func18, Try.ntmps18
    go_wp2
    go_ret
    exact ⟨rfl, rfl⟩

set_option maxHeartbeats 800000 in
theorem step_7 (k : Int) (h : k = 0 ∨ k = 1 ∨ k = 2 ∨ k = 3 ∨ k = 4) (w : World) : Calls Try.prog 18 #[.int .i64 7, .int .i64 k] w fun e w' => e = .returned (.int .i64 (stp 7 k)) ∧ w = w' := by
  rcases h with rfl | rfl | rfl | rfl | rfl
  all_goals
    go_enter Try.func18, Try.ntmps18
    go_wp2
    go_ret
    exact ⟨rfl, rfl⟩

theorem cls_range (c : Int) : cls c = 0 ∨ cls c = 1 ∨ cls c = 2 ∨ cls c = 3 ∨ cls c = 4 := by
  unfold cls
  repeat' split
  all_goals omega

theorem step_any (s c : Int) (h0 : 0 ≤ s) (h1 : s ≤ 7) (w : World) : Calls Try.prog 18 #[.int .i64 s, .int .i64 (cls c)] w fun e w' => e = .returned (.int .i64 (stp s (cls c))) ∧ w = w' := by
  have h : s = 0 ∨ s = 1 ∨ s = 2 ∨ s = 3 ∨ s = 4 ∨ s = 5 ∨ s = 6 ∨ s = 7 := by omega
  have hk := cls_range c
  rcases h with rfl | rfl | rfl | rfl | rfl | rfl | rfl | rfl
  · exact step_0 _ hk w
  · exact step_1 _ hk w
  · exact step_2 _ hk w
  · exact step_3 _ hk w
  · exact step_4 _ hk w
  · exact step_5 _ hk w
  · exact step_6 _ hk w
  · exact step_7 _ hk w

theorem stp_bd (s k : Int) : -1 ≤ stp s k ∧ stp s k ≤ 7 := by
  unfold stp
  repeat' split
  all_goals omega

set_option maxHeartbeats 1600000 in
theorem accepts_some (w : World) (g cap : Nat) (zs : List Int) (fl : Bool) (hn : zs.length ≤ 1048576)
    (hB : Buf w g zs) (ok : Bool) (hr : Hid (acc fl (autP zs 0 0) = ok)) :
    Calls Try.prog 10 #[.slice (some ⟨g, 0, none⟩) zs.length cap, .bool fl] w fun e w' => e = .returned (.bool ok) ∧ w = w' := by
  have HB : Hid (Buf w g zs) := hB
  clear hB
  go_enter Try.func10, Try.ntmps10
  go_wp2
  go_loop [5, 6] (fun f i => ∃ s : Int, ∃ q : Nat, 0 ≤ s ∧ s ≤ 7 ∧ q ≤ zs.length ∧ i = .int .i64 q ∧ f = .int .i64 s ∧ Hid (autP zs s q = autP zs 0 0)) (fun _ i => zs.length - (intOf i).toNat)
  case atStart => exact ⟨0, 0, by omega, by omega, by omega, rfl, rfl, rfl⟩
  case round =>
    obtain ⟨s, q, hs0, hs1, hq, rfl, rfl, hR⟩ := hrel
    by_cases hlt : q < zs.length
    · obtain ⟨hcx, hx0, hx1⟩ := HB.out q hlt
      have hst := autP_step zs s q hlt
      obtain ⟨x, hx⟩ : ∃ x : Int, Hid (x = nth zs q) := ⟨_, rfl⟩
      rw [← hx.out] at hcx hx0 hx1 hst
      obtain ⟨kk, hkk⟩ : ∃ t : Int, Hid (t = cls x) := ⟨_, rfl⟩
      obtain ⟨t, ht⟩ : ∃ t : Int, Hid (t = stp s (cls x)) := ⟨_, rfl⟩
      have hbd := stp_bd s (cls x)
      rw [← ht.out] at hst hbd
      have hC1 : Hid (Calls Try.prog 19 #[.int .u8 x] w fun e w' => e = .returned (.int .i64 kk) ∧ w = w') := by
        rw [hkk.out]; exact class_any x w
      have hC2 : Hid (Calls Try.prog 18 #[.int .i64 s, .int .i64 kk] w fun e w' => e = .returned (.int .i64 t) ∧ w = w') := by
        rw [ht.out, hkk.out]; exact step_any s x hs0 hs1 w
      have q1 : (q : Int) < (zs.length : Int) := by omega
      by_cases hneg : t < 0
      · rw [if_pos hneg] at hst
        have HE : ok = false := by
          have h1 := hr.out
          rw [← hR.out, hst, acc_dead] at h1; exact h1.symm
        subst HE
        clear hst hbd
        go_wp2_with (first | (go_at_call 19; refine hC1.out.mono ?_; rintro e w2 ⟨rfl, rfl⟩) | (go_at_call 18; refine hC2.out.mono ?_; rintro e w2 ⟨rfl, rfl⟩))
        go_ret
        exact ⟨rfl, rfl⟩
      · rw [if_neg hneg] at hst
        have HR : Hid (autP zs t (q + 1) = autP zs 0 0) := by rw [← hst]; exact hR
        have h0 : 0 ≤ t := by omega
        have h8 : t ≤ 7 := hbd.2
        clear hst hbd hneg
        go_wp2_with (first | (go_at_call 19; refine hC1.out.mono ?_; rintro e w2 ⟨rfl, rfl⟩) | (go_at_call 18; refine hC2.out.mono ?_; rintro e w2 ⟨rfl, rfl⟩))
        go_round
        case rel => exact ⟨t, q + 1, h0, h8, by omega, by go_num, rfl, HR⟩
        case measure => simp [intOf]; omega
    · have q1 : ¬ (q : Int) < (zs.length : Int) := by omega
      have HE : acc fl s = ok := by
        have h1 := hr.out
        rw [← hR.out, autP_end zs s q (by omega)] at h1; exact h1
      have hs : s = 0 ∨ s = 1 ∨ s = 2 ∨ s = 3 ∨ s = 4 ∨ s = 5 ∨ s = 6 ∨ s = 7 := by omega
      clear hs0 hs1 hR hr
      cases fl
      all_goals
        rcases hs with rfl | rfl | rfl | rfl | rfl | rfl | rfl | rfl
        all_goals
          subst HE
          go_wp2
          go_ret
          exact ⟨rfl, rfl⟩

set_option maxHeartbeats 400000 in
theorem accepts_nil (w : World) (fl : Bool) : Calls Try.prog 10 #[.slice none 0 0, .bool fl] w fun e w' => e = .returned (.bool false) ∧ w = w' := by
  cases fl
  all_goals
    go_enter Try.func10, Try.ntmps10
    go_wp2
    refine wp_loop_rounds 1 ?_
    rw [rounds_succ]
    go_wp2
    go_ret
    exact ⟨rfl, rfl⟩
end Go.Proofs.Qxb6603032a.Model
