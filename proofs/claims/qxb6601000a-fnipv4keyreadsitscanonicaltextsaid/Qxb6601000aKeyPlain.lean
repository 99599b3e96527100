import Derived.Test.Qxb6601000aDotted
import Derived.Laws.BitsAllLaws
namespace Go.Proofs.Qxb6601000a.Key
open Go.RowKit
open Dec Dotted

/-- The address read from the first j fields. -/
def val (a : Int) : Nat → Int
  | 0 => 0
  | 1 => a / 16777216
  | 2 => a / 65536
  | 3 => a / 256
  | _ => a

theorem val_succ (a : Int) (h0 : 0 ≤ a) (h1 : a ≤ 4294967295) (j : Nat) (hj : j ≤ 3) :
    val a (j + 1) = val a j * 256 + byt a j ∧ 0 ≤ val a j ∧ val a j < 16777216 := by
  match j, hj with
  | 0, _ => simp only [val, byt]; omega
  | 1, _ => simp only [val, byt]; omega
  | 2, _ => simp only [val, byt]; omega
  | 3, _ => simp only [val, byt]; omega

/-- The byte at place i is c. -/
def At (s : ByteArray) (i : Nat) (c : Int) : Prop := ∃ h : i < s.size, ((s[i]'h).toNat : Int) = c

theorem at_of (p m r : List Int) (t : Nat) (ht : t < m.length) (h0 : 0 ≤ m[t]) (h1 : m[t] ≤ 255) : At (strOfNums (p ++ m ++ r)) (p.length + t) m[t] := by
  have hl : p.length + t < (strOfNums (p ++ m ++ r)).size := by rw [strOfNums_size]; simp; omega
  refine ⟨hl, ?_⟩
  have e1 : ((strOfNums (p ++ m ++ r))[p.length + t]'hl) = (strOfNums (p ++ m ++ r)).data.toList[p.length + t]'(by simpa using hl) := rfl
  rw [e1]
  simp only [strOfNums_data, List.getElem_map]
  rw [List.getElem_append_left (by simp; omega), List.getElem_append_right (by omega)]
  simp only [Nat.add_sub_cancel_left, UInt8.toNat_ofNat']
  omega

theorem pre_split (a : Int) (j : Nat) (hj : j ≤ 3) : ∃ r, pre a 4 = pre a j ++ (dec (byt a j) ++ (if j < 3 then [46] else [])) ++ r ∧ (j = 3 → r = []) := by
  match j, hj with
  | 0, _ => exact ⟨dec (byt a 1) ++ [46] ++ dec (byt a 2) ++ [46] ++ dec (byt a 3), by simp [pre], by simp⟩
  | 1, _ => exact ⟨dec (byt a 2) ++ [46] ++ dec (byt a 3), by simp [pre], by simp⟩
  | 2, _ => exact ⟨dec (byt a 3), by simp [pre], by simp⟩
  | 3, _ => exact ⟨[], by simp [pre], by simp⟩

/-- What stands behind the digits of field j. -/
def Stop (s : ByteArray) (a : Int) (j m : Nat) : Prop := (j < 3 ∧ At s m 46 ∧ (pre a (j + 1)).length = m + 1) ∨ (j = 3 ∧ s.size = m)

theorem digits (p T r : List Int) (v : Int) (h0 : 0 ≤ v) (h1 : v ≤ 255) (s : ByteArray) (hs : s = strOfNums (p ++ (dec v ++ T) ++ r)) :
    (v < 10 ∧ (dec v).length = 1 ∧ At s p.length (48 + v)) ∨
    (10 ≤ v ∧ v < 100 ∧ (dec v).length = 1 + 1 ∧ At s p.length (48 + v / 10) ∧ At s (p.length + 1) (48 + v % 10)) ∨
    (100 ≤ v ∧ v ≤ 255 ∧ (dec v).length = 1 + 1 + 1 ∧ At s p.length (48 + v / 100) ∧ At s (p.length + 1) (48 + v / 10 % 10) ∧ At s (p.length + 1 + 1) (48 + v % 10)) := by
  subst hs
  by_cases c1 : v < 10
  · refine Or.inl ⟨c1, ?_⟩
    rw [dec_one v c1]
    have e : v % 10 = v := by omega
    have a0 := at_of p ([48 + v % 10] ++ T) r 0 (by simp) (by simp; omega) (by simp; omega)
    exact ⟨rfl, by simpa [e] using a0⟩
  · by_cases c2 : v < 100
    · refine Or.inr (Or.inl ⟨by omega, c2, ?_⟩)
      rw [dec_two v (by omega) c2]
      have e : v / 10 % 10 = v / 10 := by omega
      have a0 := at_of p ([48 + v / 10 % 10, 48 + v % 10] ++ T) r 0 (by simp) (by simp; omega) (by simp; omega)
      have a1 := at_of p ([48 + v / 10 % 10, 48 + v % 10] ++ T) r 1 (by simp) (by simp; omega) (by simp; omega)
      exact ⟨rfl, by simpa [e] using a0, by simpa [e] using a1⟩
    · refine Or.inr (Or.inr ⟨by omega, h1, ?_⟩)
      rw [dec_three v (by omega)]
      have a0 := at_of p ([48 + v / 100, 48 + v / 10 % 10, 48 + v % 10] ++ T) r 0 (by simp) (by simp; omega) (by simp; omega)
      have a1 := at_of p ([48 + v / 100, 48 + v / 10 % 10, 48 + v % 10] ++ T) r 1 (by simp) (by simp; omega) (by simp; omega)
      have a2 := at_of p ([48 + v / 100, 48 + v / 10 % 10, 48 + v % 10] ++ T) r 2 (by simp) (by simp; omega) (by simp; omega)
      exact ⟨rfl, by simpa using a0, by simpa using a1, by simpa using a2⟩

theorem stops (a : Int) (j : Nat) (hj : j ≤ 3) : Stop (strOfNums (pre a 4)) a j ((pre a j).length + (dec (byt a j)).length) := by
  obtain ⟨r, hr, hr3⟩ := pre_split a j hj
  by_cases hj3 : j < 3
  · refine Or.inl ⟨hj3, ?_, ?_⟩
    · rw [hr, if_pos hj3]
      have := at_of (pre a j) (dec (byt a j) ++ [46]) r (dec (byt a j)).length (by simp) (by simp) (by simp)
      simpa using this
    · show (pre a j ++ dec (byt a j) ++ (if j < 3 then [46] else [])).length = _
      rw [if_pos hj3]; simp; omega
  · refine Or.inr ⟨by omega, ?_⟩
    rw [strOfNums_size, hr, if_neg hj3, hr3 (by omega)]
    simp

/-- The bytes of field j, by its number of digits. -/
theorem facts (a : Int) (h0 : 0 ≤ a) (h1 : a ≤ 4294967295) (j : Nat) (hj : j ≤ 3) (s : ByteArray) (hs : s = strOfNums (pre a 4)) (k : Nat) (hk : k = (pre a j).length) (v : Int) (hv : v = byt a j) :
    (0 ≤ v ∧ v < 10 ∧ At s k (48 + v) ∧ Stop s a j (k + 1)) ∨
    (10 ≤ v ∧ v < 100 ∧ At s k (48 + v / 10) ∧ At s (k + 1) (48 + v % 10) ∧ Stop s a j (k + 1 + 1)) ∨
    (100 ≤ v ∧ v ≤ 255 ∧ At s k (48 + v / 100) ∧ At s (k + 1) (48 + v / 10 % 10) ∧ At s (k + 1 + 1) (48 + v % 10) ∧ Stop s a j (k + 1 + 1 + 1)) := by
  obtain ⟨r, hr, hr3⟩ := pre_split a j hj
  have hb := byt_bd a h0 h1 j
  have hst := stops a j hj
  rw [← hs, ← hk, ← hv] at hst
  rw [← hv] at hb
  have hd := digits (pre a j) (if j < 3 then [46] else []) r v hb.1 hb.2 s (by rw [hs, hr, hv])
  rw [← hk] at hd
  rcases hd with ⟨d1, d2, d3⟩ | ⟨d1, d2, d3, d4, d5⟩ | ⟨d1, d2, d3, d4, d5, d6⟩
  · rw [d2] at hst; exact Or.inl ⟨hb.1, d1, d3, hst⟩
  · rw [d3] at hst; exact Or.inr (Or.inl ⟨d1, d2, d4, d5, hst⟩)
  · rw [d3] at hst; exact Or.inr (Or.inr ⟨d1, d2, d4, d5, d6, hst⟩)

theorem or_step (x f : Int) (x0 : 0 ≤ x) (x1 : x < 16777216) (f0 : 0 ≤ f) (f1 : f ≤ 255) : bits .or .u32 (x * 256) f = x * 256 + f := by
  rw [u32_or _ _ (by omega) (by omega) f0 (by omega)]
  have e : (x * 256).toNat = 2 ^ 8 * x.toNat := by omega
  rw [e, ← Nat.two_pow_add_eq_or_of_lt (show f.toNat < 2 ^ 8 by omega)]
  omega
end Go.Proofs.Qxb6601000a.Key
