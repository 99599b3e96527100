import Derived.Test.Qxb6601000aRows
import Derived.WalkKit
import Derived.WalkSpells
import Derived.ProofKit
import Derived.OpenShut
namespace Go.Proofs.Qxb6601000a.Dec
open Go.ChangeShapes Go.WideShapes Go.ChangeAt Go.RowKit

/-- The decimal digits of a byte, as the Go text writes them. -/
def dec (v : Int) : List Int := (if 100 ≤ v then [48 + v / 100] else []) ++ ((if 10 ≤ v then [48 + v / 10 % 10] else []) ++ [48 + v % 10])

theorem info5 : (Try.prog.info? 5).map (fun i => (i.zero, i.size, i.bytes)) = some (some (.int .u8 0), 1, 1) := by kernel_rfl

theorem dec_one (v : Int) (h : v < 10) : dec v = [48 + v % 10] := by simp [dec, show ¬ 100 ≤ v by omega, show ¬ 10 ≤ v by omega]
theorem dec_two (v : Int) (h : 10 ≤ v) (h2 : v < 100) : dec v = [48 + v / 10 % 10, 48 + v % 10] := by simp [dec, show ¬ 100 ≤ v by omega, h]
theorem dec_three (v : Int) (h : 100 ≤ v) : dec v = [48 + v / 100, 48 + v / 10 % 10, 48 + v % 10] := by simp [dec, h, show 10 ≤ v by omega]

theorem lone {x : Int} : ∀ u ∈ [Value.int .u8 x], u.oneCell' = true := by intro u hu; simp at hu; subst hu; rfl

/-- One element laid in a block of its own and appended to the call's own row: what was below B stands. -/
theorem step_below {B g : Nat} {a w w1 : World} {o : Obj} (h : Below B a w) (hB : B ≤ w.heap.size) (hg : B ≤ g) (hgrow : (w.alloc o).grownBy w1 (some g)) : Below B a w1 :=
  (h.alloc hB o).grown hgrow (by simp; omega) (by intro k e; cases e; exact hg)

theorem own_lt {w : World} {B g k c : Nat} {xs : List Value} (h : w.ownsRow B 5 1 (.slice (some ⟨g, 0, none⟩) k c) k xs) : B ≤ g ∧ g < w.heap.size := h.lt g rfl

set_option maxHeartbeats 400000 in
theorem one (w : World) (B g k : Nat) (xs : List Value) (v : Int) (h0 : 0 ≤ v) (h1 : v < 10)
    (hown : w.ownsRow B 5 1 (.slice (some ⟨g, 0, none⟩) k 15) k xs) (hk : k + 1 ≤ 15) :
    Calls Try.prog 19 #[.slice (some ⟨g, 0, none⟩) k 15, .int .u8 v] w fun e w' => e = .returned (.slice (some ⟨g, 0, none⟩) (k + 1) 15) ∧
      w'.ownsRow B 5 1 (.slice (some ⟨g, 0, none⟩) (k + 1) 15) (k + 1) (xs ++ (dec v).map (Value.int .u8)) ∧ Below B w w' := by
  obtain ⟨i0, hi, hz0, hz1, hz2⟩ := info_parts info5
  have hl := own_lt hown
  go_enter Try.func19, Try.ntmps19
  go_wp2_with (at_builtin; refine wpList_append_fits _ rfl (.tmp 22) (.tmp 26) 33 rfl B 5 i0 1 Try.underlying33 hi hz1 g k 15 xs rfl (hown.alloc _) ⟨w.heap.size, 0, none⟩ 1 1 [.int .u8 (48 + v % 10)] rfl rfl (cell_one_new _ _ _) lone (by omega) ?_; intro w1 hown1 hgrow1)
  go_ret
  refine ⟨rfl, ?_, step_below (Below.refl _ _) (by omega) hl.1 hgrow1⟩
  rw [dec_one v h1]; exact hown1

set_option maxHeartbeats 400000 in
theorem two (w : World) (B g k : Nat) (xs : List Value) (v : Int) (h0 : 10 ≤ v) (h1 : v < 100)
    (hown : w.ownsRow B 5 1 (.slice (some ⟨g, 0, none⟩) k 15) k xs) (hk : k + 2 ≤ 15) :
    Calls Try.prog 19 #[.slice (some ⟨g, 0, none⟩) k 15, .int .u8 v] w fun e w' => e = .returned (.slice (some ⟨g, 0, none⟩) (k + 1 + 1) 15) ∧
      w'.ownsRow B 5 1 (.slice (some ⟨g, 0, none⟩) (k + 1 + 1) 15) (k + 1 + 1) (xs ++ (dec v).map (Value.int .u8)) ∧ Below B w w' := by
  obtain ⟨i0, hi, hz0, hz1, hz2⟩ := info_parts info5
  have hl := own_lt hown
  go_enter Try.func19, Try.ntmps19
  go_wp2_with (first | (at_builtin; refine wpList_append_fits _ rfl (.tmp 15) (.tmp 20) 33 rfl B 5 i0 1 Try.underlying33 hi hz1 g k 15 xs rfl (hown.alloc _) ⟨w.heap.size, 0, none⟩ 1 1 [.int .u8 (48 + v / 10 % 10)] rfl rfl (cell_one_new _ _ _) lone (by omega) ?_; intro w1 hown1 hgrow1) | (at_builtin; refine wpList_append_fits _ rfl (.tmp 22) (.tmp 26) 33 rfl B 5 i0 1 Try.underlying33 hi hz1 g (k + 1) 15 (xs ++ [.int .u8 (48 + v / 10 % 10)]) rfl (hown1.alloc _) ⟨w1.heap.size, 0, none⟩ 1 1 [.int .u8 (48 + v % 10)] rfl rfl (cell_one_new _ _ _) lone (by omega) ?_; intro w2 hown2 hgrow2))
  go_ret
  have b1 := step_below (Below.refl B w) (by omega) hl.1 hgrow1
  have hl1 := own_lt hown1
  refine ⟨rfl, ?_, step_below b1 (by omega) hl.1 hgrow2⟩
  rw [dec_two v h0 h1]; simpa using hown2

set_option maxHeartbeats 400000 in
theorem three (w : World) (B g k : Nat) (xs : List Value) (v : Int) (h0 : 100 ≤ v) (h1 : v ≤ 255)
    (hown : w.ownsRow B 5 1 (.slice (some ⟨g, 0, none⟩) k 15) k xs) (hk : k + 3 ≤ 15) :
    Calls Try.prog 19 #[.slice (some ⟨g, 0, none⟩) k 15, .int .u8 v] w fun e w' => e = .returned (.slice (some ⟨g, 0, none⟩) (k + 1 + 1 + 1) 15) ∧
      w'.ownsRow B 5 1 (.slice (some ⟨g, 0, none⟩) (k + 1 + 1 + 1) 15) (k + 1 + 1 + 1) (xs ++ (dec v).map (Value.int .u8)) ∧ Below B w w' := by
  obtain ⟨i0, hi, hz0, hz1, hz2⟩ := info_parts info5
  have hl := own_lt hown
  go_enter Try.func19, Try.ntmps19
  go_wp2_with (first | (at_builtin; refine wpList_append_fits _ rfl (.tmp 7) (.tmp 11) 33 rfl B 5 i0 1 Try.underlying33 hi hz1 g k 15 xs rfl (hown.alloc _) ⟨w.heap.size, 0, none⟩ 1 1 [.int .u8 (48 + v / 100)] rfl rfl (cell_one_new _ _ _) lone (by omega) ?_; intro w1 hown1 hgrow1) | (at_builtin; refine wpList_append_fits _ rfl (.tmp 15) (.tmp 20) 33 rfl B 5 i0 1 Try.underlying33 hi hz1 g (k + 1) 15 (xs ++ [.int .u8 (48 + v / 100)]) rfl (hown1.alloc _) ⟨w1.heap.size, 0, none⟩ 1 1 [.int .u8 (48 + v / 10 % 10)] rfl rfl (cell_one_new _ _ _) lone (by omega) ?_; intro w2 hown2 hgrow2) | (at_builtin; refine wpList_append_fits _ rfl (.tmp 22) (.tmp 26) 33 rfl B 5 i0 1 Try.underlying33 hi hz1 g (k + 1 + 1) 15 (xs ++ [.int .u8 (48 + v / 100)] ++ [.int .u8 (48 + v / 10 % 10)]) rfl (hown2.alloc _) ⟨w2.heap.size, 0, none⟩ 1 1 [.int .u8 (48 + v % 10)] rfl rfl (cell_one_new _ _ _) lone (by omega) ?_; intro w3 hown3 hgrow3))
  go_ret
  have b1 := step_below (Below.refl B w) (by omega) hl.1 hgrow1
  have hl1 := own_lt hown1
  have b2 := step_below b1 (by omega) hl.1 hgrow2
  have hl2 := own_lt hown2
  refine ⟨rfl, ?_, step_below b2 (by omega) hl.1 hgrow3⟩
  rw [dec_three v h0]; simpa using hown3

/-- appendDec, at every byte. -/
theorem appendDec_any (w : World) (B g k : Nat) (xs : List Value) (v : Int) (h0 : 0 ≤ v) (h1 : v ≤ 255)
    (hown : w.ownsRow B 5 1 (.slice (some ⟨g, 0, none⟩) k 15) k xs) (hk : k + 3 ≤ 15) :
    Calls Try.prog 19 #[.slice (some ⟨g, 0, none⟩) k 15, .int .u8 v] w fun e w' => e = .returned (.slice (some ⟨g, 0, none⟩) (k + (dec v).length) 15) ∧
      w'.ownsRow B 5 1 (.slice (some ⟨g, 0, none⟩) (k + (dec v).length) 15) (k + (dec v).length) (xs ++ (dec v).map (Value.int .u8)) ∧ Below B w w' := by
  by_cases c1 : v < 10
  · have e : (dec v).length = 1 := by rw [dec_one v c1]; rfl
    rw [e]; exact one w B g k xs v h0 c1 hown (by omega)
  · by_cases c2 : v < 100
    · have e : (dec v).length = 1 + 1 := by rw [dec_two v (by omega) c2]; rfl
      rw [e]; exact two w B g k xs v (by omega) c2 hown (by omega)
    · have e : (dec v).length = 1 + 1 + 1 := by rw [dec_three v (by omega)]; rfl
      rw [e]; exact three w B g k xs v (by omega) h1 hown (by omega)
end Go.Proofs.Qxb6601000a.Dec
