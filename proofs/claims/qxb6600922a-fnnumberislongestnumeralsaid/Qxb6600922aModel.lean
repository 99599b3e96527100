import Derived.Test.Qxb6600922aPlain
import Derived.WalkKit
import Derived.WalkSpells
import Derived.ProofKit
import Derived.OpenShut
import Derived.Below
import Derived.Deep.LoopGhost
import Derived.Deep.DeepCutAuto
import Derived.Deep.CutBlock
namespace Go.Proofs.Qxb6600922a.Model
open Go.ChangeShapes Go.WideShapes Go.ChangeAt Go.RowKit
open Plain

/-- A string's bytes as numbers. -/
def numsOf (s : ByteArray) : List Int := s.data.toList.map (fun b => (b.toNat : Int))
theorem numsOf_length (s : ByteArray) : (numsOf s).length = s.size := by simp [numsOf]
theorem numsOf_nth (s : ByteArray) (q : Nat) (h : q < s.size) : nth (numsOf s) q = (((s[q]'h).toNat : Nat) : Int) := by
  have h' : q < s.data.toList.length := by simpa using h
  have e : s[q] = s.data.toList[q] := rfl
  rw [e]
  unfold nth numsOf
  rw [List.getD_eq_getElem?_getD, List.getElem?_map, List.getElem?_eq_getElem h']
  rfl

/-- What is told of the text: its numbers. -/
def Txt (s : ByteArray) (zs : List Int) : Prop := zs.length = s.size ∧ ∀ q (h : q < s.size), nth zs q = (((s[q]'h).toNat : Nat) : Int)

theorem Txt.of (s : ByteArray) : Txt s (numsOf s) := ⟨numsOf_length s, numsOf_nth s⟩

theorem nx_dig (s c : Int) (h : dgt c = true) : nx s c = if s = 0 ∨ s = 1 then 1 else if s = 2 ∨ s = 3 then 3 else 6 := by
  unfold nx; simp only [h, if_true]
  split
  · rfl
  · split
    · rfl
    · split <;> rfl
theorem dead0 (c : Nat) (h : dgt (c : Int) = false) (n46 : ((c : Int) == 46) = false) (n101 : ((c : Int) == 101) = false) (n69 : ((c : Int) == 69) = false) : nx 0 (c : Int) = -1 := by
  have m46 : ¬ (c : Int) = 46 := by simpa using n46
  have he : eE (c : Int) = false := by simp only [eE, Bool.or_eq_false_iff]; exact ⟨n101, n69⟩
  simp only [nx]; simp [h, m46, he]
theorem dead1 (c : Nat) (h : dgt (c : Int) = false) (n46 : ((c : Int) == 46) = false) (n101 : ((c : Int) == 101) = false) (n69 : ((c : Int) == 69) = false) : nx 1 (c : Int) = -1 := by
  have m46 : ¬ (c : Int) = 46 := by simpa using n46
  have he : eE (c : Int) = false := by simp only [eE, Bool.or_eq_false_iff]; exact ⟨n101, n69⟩
  simp only [nx]; simp [h, m46, he]
theorem dead2 (c : Nat) (h : dgt (c : Int) = false) (n101 : ((c : Int) == 101) = false) (n69 : ((c : Int) == 69) = false) : nx 2 (c : Int) = -1 := by
  have he : eE (c : Int) = false := by simp only [eE, Bool.or_eq_false_iff]; exact ⟨n101, n69⟩
  simp only [nx]; simp [h, he]
theorem dead3 (c : Nat) (h : dgt (c : Int) = false) (n101 : ((c : Int) == 101) = false) (n69 : ((c : Int) == 69) = false) : nx 3 (c : Int) = -1 := by
  have he : eE (c : Int) = false := by simp only [eE, Bool.or_eq_false_iff]; exact ⟨n101, n69⟩
  simp only [nx]; simp [h, he]
theorem dead4 (c : Nat) (h : dgt (c : Int) = false) (n43 : ((c : Int) == 43) = false) (n45 : ((c : Int) == 45) = false) : nx 4 (c : Int) = -1 := by
  have hp : pm (c : Int) = false := by simp only [pm, Bool.or_eq_false_iff]; exact ⟨n43, n45⟩
  simp only [nx]; simp [h, hp]
theorem dead5 (c : Nat) (h : dgt (c : Int) = false)  : nx 5 (c : Int) = -1 := by
  simp only [nx]; simp [h]
theorem dead6 (c : Nat) (h : dgt (c : Int) = false)  : nx 6 (c : Int) = -1 := by
  simp only [nx]; simp [h]
theorem nx_bd (s c : Int) : -1 ≤ nx s c ∧ nx s c ≤ 6 := by
  unfold nx
  repeat' split
  all_goals omega

set_option maxHeartbeats 400000 in
theorem zdig_true (c : Int) (h1 : 48 ≤ c) (h2 : c ≤ 57) (w : World) : Calls Try.prog 16 #[.int .u8 c] w fun e w' => e = .returned (.bool true) ∧ w = w' := by
  go_enter Try.func16, Try.ntmps16
  go_wp2
  go_ret
  exact ⟨rfl, rfl⟩
set_option maxHeartbeats 400000 in
theorem zdig_false (c : Int) (h : dgt c = false) (w : World) : Calls Try.prog 16 #[.int .u8 c] w fun e w' => e = .returned (.bool false) ∧ w = w' := by
  by_cases h1 : 48 ≤ c
  · have h2 : ¬ c ≤ 57 := by simp only [dgt, Bool.and_eq_false_iff, decide_eq_false_iff_not] at h; omega
    clear h
    go_enter Try.func16, Try.ntmps16
    go_wp2
    go_ret
    exact ⟨rfl, rfl⟩
  · clear h
    go_enter Try.func16, Try.ntmps16
    go_wp2
    go_ret
    exact ⟨rfl, rfl⟩

set_option maxRecDepth 100000 in
set_option maxHeartbeats 3200000 in
theorem end_any (s : ByteArray) (zs : List Int) (p : Nat) (w : World) (hT : Txt s zs) (hn : s.size ≤ 1048576) (hp : p ≤ s.size) (en : Nat) (hE : Hid (mdP zs 0 p p = en)) :
    Calls Try.prog 9 #[.string s, .int .i64 p] w fun e w' => e = .returned (.int .i64 en) ∧ w = w' := by
  have HT : Hid (Txt s zs) := hT
  clear hT
  go_enter Try.func9, Try.ntmps9
  go_wp2
  go_loopg [5, 6, 7] (s.size - p) (fun k s5 s6 s7 wx => ∃ (st : Int) (la q : Nat), 0 ≤ st ∧ st ≤ 6 ∧ q ≤ s.size ∧ la ≤ s.size ∧ Hid (k = s.size - q ∧ mdP zs st la q = en) ∧ s5 = .int .i64 st ∧ s6 = .int .i64 la ∧ s7 = .int .i64 q ∧ w = wx)
  case atStart => exact ⟨0, p, p, by omega, by omega, hp, hp, ⟨rfl, hE.out⟩, rfl, rfl, rfl, rfl⟩
  case round =>
    obtain ⟨st, la, q, hs0, hs1, hq, hla, hK, rfl, rfl, rfl, rfl⟩ := hrel
    by_cases hl : q < s.size
    · obtain ⟨c, hc⟩ : ∃ c : Nat, (s[q]'hl).toNat = c := ⟨_, rfl⟩
      have hnt := HT.out.2 q hl
      rw [hc] at hnt
      have hstep := mdP_step zs st la q (by rw [HT.out.1]; exact hl)
      rw [hnt] at hstep
      have HST : Hid (mdP zs st la q = if nx st (c : Int) < 0 then la else mdP zs (nx st (c : Int)) (if nx st (c : Int) = 4 ∨ nx st (c : Int) = 5 then la else q + 1) (q + 1)) := hstep
      clear hstep hnt
      have q1 : (q : Int) < (s.size : Int) := by omega
      obtain ⟨t, ht⟩ : ∃ t : Int, Hid (t = nx st (c : Int)) := ⟨_, rfl⟩
      have HST2 : Hid (mdP zs st la q = if t < 0 then la else mdP zs t (if t = 4 ∨ t = 5 then la else q + 1) (q + 1)) := by
        show _ = _
        rw [HST.out, ← ht.out]
      have hbd := nx_bd st (c : Int)
      rw [← ht.out] at hbd
      clear HST
      go_upto_block 2 with fail
      go_cut [9] (fun s9 wx => s9 = .int .i64 t ∧ w = wx)
      case first =>
        clear HST2 hbd hK
        obtain h | h | h | h | h | h | h : st = 0 ∨ st = 1 ∨ st = 2 ∨ st = 3 ∨ st = 4 ∨ st = 5 ∨ st = 6 := by omega
        · subst h
          by_cases hd : 48 ≤ (c : Int) ∧ (c : Int) ≤ 57
          · obtain ⟨d1, d2⟩ := hd
            obtain rfl : t = 1 := by rw [ht.out, nx_dig 0 _ (by simp [dgt, d1, d2])]; rfl
            clear ht
            go_wp2_with (go_at_call 16; refine (zdig_true _ d1 d2 _).mono ?_; rintro e w2 ⟨rfl, rfl⟩)
            go_meet
            exact ⟨rfl, rfl⟩
          have hf : dgt (c : Int) = false := by simp only [dgt, Bool.and_eq_false_iff, decide_eq_false_iff_not]; omega
          clear hd
          by_cases e46 : c = 46
          · subst e46
            obtain rfl : t = 2 := by rw [ht.out]; decide
            clear ht
            go_wp2_with (go_at_call 16; refine (zdig_false _ hf _).mono ?_; rintro e w2 ⟨rfl, rfl⟩)
            go_meet
            exact ⟨rfl, rfl⟩
          have n46 : ((c : Int) == 46) = false := by simp; omega
          by_cases e101 : c = 101
          · subst e101
            obtain rfl : t = 4 := by rw [ht.out]; decide
            clear ht
            go_wp2_with (go_at_call 16; refine (zdig_false _ hf _).mono ?_; rintro e w2 ⟨rfl, rfl⟩)
            go_meet
            exact ⟨rfl, rfl⟩
          have n101 : ((c : Int) == 101) = false := by simp; omega
          by_cases e69 : c = 69
          · subst e69
            obtain rfl : t = 4 := by rw [ht.out]; decide
            clear ht
            go_wp2_with (go_at_call 16; refine (zdig_false _ hf _).mono ?_; rintro e w2 ⟨rfl, rfl⟩)
            go_meet
            exact ⟨rfl, rfl⟩
          have n69 : ((c : Int) == 69) = false := by simp; omega
          obtain rfl : t = -1 := by rw [ht.out]; exact dead0 c hf n46 n101 n69
          clear ht
          go_wp2_with (go_at_call 16; refine (zdig_false _ hf _).mono ?_; rintro e w2 ⟨rfl, rfl⟩)
          go_meet
          exact ⟨rfl, rfl⟩
        · subst h
          by_cases hd : 48 ≤ (c : Int) ∧ (c : Int) ≤ 57
          · obtain ⟨d1, d2⟩ := hd
            obtain rfl : t = 1 := by rw [ht.out, nx_dig 1 _ (by simp [dgt, d1, d2])]; rfl
            clear ht
            go_wp2_with (go_at_call 16; refine (zdig_true _ d1 d2 _).mono ?_; rintro e w2 ⟨rfl, rfl⟩)
            go_meet
            exact ⟨rfl, rfl⟩
          have hf : dgt (c : Int) = false := by simp only [dgt, Bool.and_eq_false_iff, decide_eq_false_iff_not]; omega
          clear hd
          by_cases e46 : c = 46
          · subst e46
            obtain rfl : t = 2 := by rw [ht.out]; decide
            clear ht
            go_wp2_with (go_at_call 16; refine (zdig_false _ hf _).mono ?_; rintro e w2 ⟨rfl, rfl⟩)
            go_meet
            exact ⟨rfl, rfl⟩
          have n46 : ((c : Int) == 46) = false := by simp; omega
          by_cases e101 : c = 101
          · subst e101
            obtain rfl : t = 4 := by rw [ht.out]; decide
            clear ht
            go_wp2_with (go_at_call 16; refine (zdig_false _ hf _).mono ?_; rintro e w2 ⟨rfl, rfl⟩)
            go_meet
            exact ⟨rfl, rfl⟩
          have n101 : ((c : Int) == 101) = false := by simp; omega
          by_cases e69 : c = 69
          · subst e69
            obtain rfl : t = 4 := by rw [ht.out]; decide
            clear ht
            go_wp2_with (go_at_call 16; refine (zdig_false _ hf _).mono ?_; rintro e w2 ⟨rfl, rfl⟩)
            go_meet
            exact ⟨rfl, rfl⟩
          have n69 : ((c : Int) == 69) = false := by simp; omega
          obtain rfl : t = -1 := by rw [ht.out]; exact dead1 c hf n46 n101 n69
          clear ht
          go_wp2_with (go_at_call 16; refine (zdig_false _ hf _).mono ?_; rintro e w2 ⟨rfl, rfl⟩)
          go_meet
          exact ⟨rfl, rfl⟩
        · subst h
          by_cases hd : 48 ≤ (c : Int) ∧ (c : Int) ≤ 57
          · obtain ⟨d1, d2⟩ := hd
            obtain rfl : t = 3 := by rw [ht.out, nx_dig 2 _ (by simp [dgt, d1, d2])]; rfl
            clear ht
            go_wp2_with (go_at_call 16; refine (zdig_true _ d1 d2 _).mono ?_; rintro e w2 ⟨rfl, rfl⟩)
            go_meet
            exact ⟨rfl, rfl⟩
          have hf : dgt (c : Int) = false := by simp only [dgt, Bool.and_eq_false_iff, decide_eq_false_iff_not]; omega
          clear hd
          by_cases e101 : c = 101
          · subst e101
            obtain rfl : t = 4 := by rw [ht.out]; decide
            clear ht
            go_wp2_with (go_at_call 16; refine (zdig_false _ hf _).mono ?_; rintro e w2 ⟨rfl, rfl⟩)
            go_meet
            exact ⟨rfl, rfl⟩
          have n101 : ((c : Int) == 101) = false := by simp; omega
          by_cases e69 : c = 69
          · subst e69
            obtain rfl : t = 4 := by rw [ht.out]; decide
            clear ht
            go_wp2_with (go_at_call 16; refine (zdig_false _ hf _).mono ?_; rintro e w2 ⟨rfl, rfl⟩)
            go_meet
            exact ⟨rfl, rfl⟩
          have n69 : ((c : Int) == 69) = false := by simp; omega
          obtain rfl : t = -1 := by rw [ht.out]; exact dead2 c hf n101 n69
          clear ht
          go_wp2_with (go_at_call 16; refine (zdig_false _ hf _).mono ?_; rintro e w2 ⟨rfl, rfl⟩)
          go_meet
          exact ⟨rfl, rfl⟩
        · subst h
          by_cases hd : 48 ≤ (c : Int) ∧ (c : Int) ≤ 57
          · obtain ⟨d1, d2⟩ := hd
            obtain rfl : t = 3 := by rw [ht.out, nx_dig 3 _ (by simp [dgt, d1, d2])]; rfl
            clear ht
            go_wp2_with (go_at_call 16; refine (zdig_true _ d1 d2 _).mono ?_; rintro e w2 ⟨rfl, rfl⟩)
            go_meet
            exact ⟨rfl, rfl⟩
          have hf : dgt (c : Int) = false := by simp only [dgt, Bool.and_eq_false_iff, decide_eq_false_iff_not]; omega
          clear hd
          by_cases e101 : c = 101
          · subst e101
            obtain rfl : t = 4 := by rw [ht.out]; decide
            clear ht
            go_wp2_with (go_at_call 16; refine (zdig_false _ hf _).mono ?_; rintro e w2 ⟨rfl, rfl⟩)
            go_meet
            exact ⟨rfl, rfl⟩
          have n101 : ((c : Int) == 101) = false := by simp; omega
          by_cases e69 : c = 69
          · subst e69
            obtain rfl : t = 4 := by rw [ht.out]; decide
            clear ht
            go_wp2_with (go_at_call 16; refine (zdig_false _ hf _).mono ?_; rintro e w2 ⟨rfl, rfl⟩)
            go_meet
            exact ⟨rfl, rfl⟩
          have n69 : ((c : Int) == 69) = false := by simp; omega
          obtain rfl : t = -1 := by rw [ht.out]; exact dead3 c hf n101 n69
          clear ht
          go_wp2_with (go_at_call 16; refine (zdig_false _ hf _).mono ?_; rintro e w2 ⟨rfl, rfl⟩)
          go_meet
          exact ⟨rfl, rfl⟩
        · subst h
          by_cases hd : 48 ≤ (c : Int) ∧ (c : Int) ≤ 57
          · obtain ⟨d1, d2⟩ := hd
            obtain rfl : t = 6 := by rw [ht.out, nx_dig 4 _ (by simp [dgt, d1, d2])]; rfl
            clear ht
            go_wp2_with (go_at_call 16; refine (zdig_true _ d1 d2 _).mono ?_; rintro e w2 ⟨rfl, rfl⟩)
            go_meet
            exact ⟨rfl, rfl⟩
          have hf : dgt (c : Int) = false := by simp only [dgt, Bool.and_eq_false_iff, decide_eq_false_iff_not]; omega
          clear hd
          by_cases e43 : c = 43
          · subst e43
            obtain rfl : t = 5 := by rw [ht.out]; decide
            clear ht
            go_wp2_with (go_at_call 16; refine (zdig_false _ hf _).mono ?_; rintro e w2 ⟨rfl, rfl⟩)
            go_meet
            exact ⟨rfl, rfl⟩
          have n43 : ((c : Int) == 43) = false := by simp; omega
          by_cases e45 : c = 45
          · subst e45
            obtain rfl : t = 5 := by rw [ht.out]; decide
            clear ht
            go_wp2_with (go_at_call 16; refine (zdig_false _ hf _).mono ?_; rintro e w2 ⟨rfl, rfl⟩)
            go_meet
            exact ⟨rfl, rfl⟩
          have n45 : ((c : Int) == 45) = false := by simp; omega
          obtain rfl : t = -1 := by rw [ht.out]; exact dead4 c hf n43 n45
          clear ht
          go_wp2_with (go_at_call 16; refine (zdig_false _ hf _).mono ?_; rintro e w2 ⟨rfl, rfl⟩)
          go_meet
          exact ⟨rfl, rfl⟩
        · subst h
          by_cases hd : 48 ≤ (c : Int) ∧ (c : Int) ≤ 57
          · obtain ⟨d1, d2⟩ := hd
            obtain rfl : t = 6 := by rw [ht.out, nx_dig 5 _ (by simp [dgt, d1, d2])]; rfl
            clear ht
            go_wp2_with (go_at_call 16; refine (zdig_true _ d1 d2 _).mono ?_; rintro e w2 ⟨rfl, rfl⟩)
            go_meet
            exact ⟨rfl, rfl⟩
          have hf : dgt (c : Int) = false := by simp only [dgt, Bool.and_eq_false_iff, decide_eq_false_iff_not]; omega
          clear hd
          obtain rfl : t = -1 := by rw [ht.out]; exact dead5 c hf 
          clear ht
          go_wp2_with (go_at_call 16; refine (zdig_false _ hf _).mono ?_; rintro e w2 ⟨rfl, rfl⟩)
          go_meet
          exact ⟨rfl, rfl⟩
        · subst h
          by_cases hd : 48 ≤ (c : Int) ∧ (c : Int) ≤ 57
          · obtain ⟨d1, d2⟩ := hd
            obtain rfl : t = 6 := by rw [ht.out, nx_dig 6 _ (by simp [dgt, d1, d2])]; rfl
            clear ht
            go_wp2_with (go_at_call 16; refine (zdig_true _ d1 d2 _).mono ?_; rintro e w2 ⟨rfl, rfl⟩)
            go_meet
            exact ⟨rfl, rfl⟩
          have hf : dgt (c : Int) = false := by simp only [dgt, Bool.and_eq_false_iff, decide_eq_false_iff_not]; omega
          clear hd
          obtain rfl : t = -1 := by rw [ht.out]; exact dead6 c hf 
          clear ht
          go_wp2_with (go_at_call 16; refine (zdig_false _ hf _).mono ?_; rintro e w2 ⟨rfl, rfl⟩)
          go_meet
          exact ⟨rfl, rfl⟩
      case rest =>
        obtain ⟨rfl, rfl⟩ := hcut
        clear ht
        by_cases hneg : t < 0
        · have HD : Hid (la = en) := by
            have h1 := hK.out.2
            rw [HST2.out, if_pos hneg] at h1; exact h1
          obtain rfl := HD.out
          clear hK HST2 HD hbd
          go_wp2
          go_ret
          exact ⟨rfl, rfl⟩
        · have h0 : 0 ≤ t := by omega
          have h1 := hK.out.2
          rw [HST2.out, if_neg hneg] at h1
          have hK1 : Hid (gk = s.size - q) := hK.out.1
          clear hneg HST2
          obtain k | k | k : t = 4 ∨ t = 5 ∨ (¬ t = 4 ∧ ¬ t = 5) := by omega
          · subst k
            rw [if_pos (Or.inl rfl)] at h1
            have HM : Hid (mdP zs 4 la (q + 1) = en) := h1
            clear h1 hbd hK
            go_wp2
            go_roundg (s.size - (q + 1))
            case measure => have := hK1.out; omega
            case rel => exact ⟨4, la, q + 1, by omega, by omega, by omega, hla, ⟨rfl, HM.out⟩, rfl, rfl, by go_num, rfl⟩
          · subst k
            rw [if_pos (Or.inr rfl)] at h1
            have HM : Hid (mdP zs 5 la (q + 1) = en) := h1
            clear h1 hbd hK
            go_wp2
            go_roundg (s.size - (q + 1))
            case measure => have := hK1.out; omega
            case rel => exact ⟨5, la, q + 1, by omega, by omega, by omega, hla, ⟨rfl, HM.out⟩, rfl, rfl, by go_num, rfl⟩
          · rw [if_neg (by omega)] at h1
            have HM : Hid (mdP zs t (q + 1) (q + 1) = en) := h1
            have k4 : (t != 4) = true := by simpa using k.1
            have k5 : (t != 5) = true := by simpa using k.2
            have h6 : t ≤ 6 := hbd.2
            clear h1 k hbd hK
            go_wp2
            go_roundg (s.size - (q + 1))
            case measure => have := hK1.out; omega
            case rel => exact ⟨t, q + 1, q + 1, h0, h6, by omega, by omega, ⟨rfl, HM.out⟩, rfl, by go_num, by go_num, rfl⟩
    · have q1 : ¬ (q : Int) < (s.size : Int) := by omega
      have HD : Hid (la = en) := by
        have h1 := hK.out.2
        rw [mdP_end zs st la q (by rw [HT.out.1]; omega)] at h1; exact h1
      obtain rfl := HD.out
      go_wp2
      go_ret
      exact ⟨rfl, rfl⟩
end Go.Proofs.Qxb6600922a.Model
