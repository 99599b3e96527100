import Derived.Test.Qxb6603032aRows
import Derived.WalkKit
import Derived.WalkSpells
import Derived.ProofKit
import Derived.OpenShut
import Derived.Below
namespace Go.Proofs.Qxb6603032a.Clone
open Go.ChangeShapes Go.WideShapes Go.ChangeAt Go.RowKit

theorem info5 : (Try.prog.info? 5).map (fun i => (i.zero, i.size, i.bytes)) = some (some (.int .u8 0), 1, 1) := by kernel_rfl

theorem take_set_succ (l : List Value) (k : Nat) (v : Value) (h : k < l.length) : (l.set k v).take (k + 1) = l.take k ++ [v] := by
  rw [List.take_succ_eq_append_getElem (by simpa using h), List.take_set_of_le (Nat.le_refl _)]
  simp

theorem take_snoc (zs : List Int) (k : Nat) (h : k < zs.length) : (zs.take (k + 1)).map (Value.int .u8) = (zs.take k).map (Value.int .u8) ++ [.int .u8 (zs.getD k 0)] := by
  rw [List.take_succ_eq_append_getElem h, List.map_append]
  congr 1
  simp [h]

theorem own_lt {w : World} {B g k c : Nat} {xs : List Value} (h : w.ownsRow B 5 1 (.slice (some ⟨g, 0, none⟩) k c) k xs) : B ≤ g ∧ g < w.heap.size := h.lt g rfl

set_option maxHeartbeats 400000 in
theorem clone_nil (w : World) (n c : Nat) :
    Calls Try.prog 8 #[.slice none n c] w fun e w' => e = .returned (.slice none 0 0) ∧ w = w' := by
  have hq := fun (w : World) (a : Option Addr) (l c : Nat) => Lib.run_eql_slice_nil (P := Try.prog) w 22 5 a l c 0 0 Try.underlying22
  go_enter Try.func8, Try.ntmps8
  go_wp2
  go_ret
  exact ⟨rfl, rfl⟩

set_option maxHeartbeats 800000 in
theorem clone_own (w : World) (b off len cap : Nat) (zs : List Int) (hlen : len ≤ 1048576) (hl : len ≤ zs.length)
    (hc : ∀ j, j < zs.length → w.cell? ⟨b, off + j, none⟩ = some (.int .u8 (zs.getD j 0))) :
    Calls Try.prog 8 #[.slice (some ⟨b, off, none⟩) len cap] w fun e w' => e = .returned (.slice (some ⟨w.heap.size, 0, none⟩) len len) ∧
      w'.ownsRow w.heap.size 5 1 (.slice (some ⟨w.heap.size, 0, none⟩) len len) len ((zs.take len).map (Value.int .u8)) ∧ Below w.heap.size w w' := by
  obtain ⟨i0, hi, hz0, hz1, hz2⟩ := info_parts info5
  have hq := fun (w : World) (a : Option Addr) (l c : Nat) => Lib.run_eql_slice_nil (P := Try.prog) w 22 5 a l c 0 0 Try.underlying22
  go_enter Try.func8, Try.ntmps8
  go_wp2_with (at_make; refine wpList_make_full _ rfl _ _ 22 rfl w.heap.size 5 i0 (.int .u8 0) 1 Try.underlying22 hi hz0 hz1 .i64 .i64 _ _ len rfl rfl rfl rfl (by rw [hz2]; omega) (by unfold maxLen; omega) (Nat.le_refl _) ?_; intro w1 hown1 hgrow1)
  have b1 : Below w.heap.size w w1 := (Below.refl _ _).grown hgrow1 (Nat.le_refl _) (by intro k e; cases e)
  clear hgrow1
  go_loopw [4] (fun i wr => ∃ k : Nat, ∃ ys : List Value, k ≤ len ∧ i = .int .i64 k ∧ wr.ownsRow w.heap.size 5 1 (.slice (some ⟨w.heap.size, 0, none⟩) len len) len ys ∧ ys.take k = (zs.take k).map (Value.int .u8) ∧ Below w.heap.size w wr)
    (fun i _ => len - (intOf i).toNat)
  case atStart => exact ⟨0, _, Nat.zero_le _, rfl, hown1, by simp, b1⟩
  case round =>
    obtain ⟨k, ys, hk, rfl, hown, hys, hb⟩ := hrel
    clear hown1 b1
    have HY : Hid (ys.take k = (zs.take k).map (Value.int .u8)) := hys
    clear hys
    by_cases hlt : k < len
    · have hyl : ys.length = len := by have := hown.1; omega
      have hcx : wr.cell? ⟨b, off + k, none⟩ = some (.int .u8 (zs.getD k 0)) := by
        have h0 := hc k (by omega)
        have hb0 : b < w.heap.size := World.block_lt_of_cell? w ⟨b, off + k, none⟩ h0
        exact (hb.cell (p := ⟨b, off + k, none⟩) hb0).trans h0
      have hcy : wr.cell? ⟨w.heap.size, k, none⟩ = some (ys[k]'(by omega)) := by
        rw [hown.cellAt k (by omega)]; simp [hyl, hlt]
      have hfy : wr.frozen? ⟨w.heap.size, k, none⟩ = false := hown.frozenAt k
      have HO : Hid (wr.ownsRow w.heap.size 5 1 (.slice (some ⟨w.heap.size, 0, none⟩) len len) len ys) := hown
      clear hown hc
      go_wp2
      have St := HO.out.stored k (.int .u8 (zs.getD k 0))
      go_roundw
      case rel => exact ⟨k + 1, ys.set k (.int .u8 (zs.getD k 0)), by omega, by go_num, St.1, by rw [take_set_succ ys k _ (by omega), HY.out, take_snoc zs k (by omega)], hb.setCell (Nat.le_refl _) _⟩
      case measure => simp [intOf]; omega
    · have hkl : k = len := by omega
      subst hkl
      have hyl : ys.length = k := by have := hown.1; omega
      have hy : ys = (zs.take k).map (Value.int .u8) := by rw [← HY.out, List.take_of_length_le (by omega)]
      rw [hy] at hown
      clear hc hy
      go_wp2
      go_ret
      exact ⟨rfl, hown, hb⟩

set_option maxHeartbeats 400000 in
theorem clone_empty (w : World) (x : Addr) (cap : Nat) :
    Calls Try.prog 8 #[.slice (some x) 0 cap] w fun e w' => e = .returned (.slice (some ⟨w.heap.size, 0, none⟩) 0 0) ∧
      w'.ownsRow w.heap.size 5 1 (.slice (some ⟨w.heap.size, 0, none⟩) 0 0) 0 [] ∧ Below w.heap.size w w' := by
  obtain ⟨i0, hi, hz0, hz1, hz2⟩ := info_parts info5
  have hq := fun (w : World) (a : Option Addr) (l c : Nat) => Lib.run_eql_slice_nil (P := Try.prog) w 22 5 a l c 0 0 Try.underlying22
  go_enter Try.func8, Try.ntmps8
  go_wp2_with (at_make; refine wpList_make_full _ rfl _ _ 22 rfl w.heap.size 5 i0 (.int .u8 0) 1 Try.underlying22 hi hz0 hz1 .i64 .i64 _ _ 0 rfl rfl rfl rfl (by omega) (by unfold maxLen; omega) (Nat.le_refl _) ?_; intro w1 hown1 hgrow1)
  refine wp_loop_rounds 1 ?_
  rw [rounds_succ]
  go_wp2
  go_ret
  exact ⟨rfl, by simpa [madeCells] using hown1, (Below.refl _ _).grown hgrow1 (Nat.le_refl _) (by intro k e; cases e)⟩

/-- The clone of a slice that is not nil: a row of the call's own that holds its elements. -/
theorem clone_some (w : World) (x : Addr) (len cap : Nat) (zs : List Int) (hlen : len ≤ 1048576) (hl : len ≤ cap) (hz : zs.length = cap)
    (hc : ∀ i, i < zs.length → w.cell? (x.add i) = some (.int .u8 (zs.getD i 0))) :
    Calls Try.prog 8 #[.slice (some x) len cap] w fun e w' => e = .returned (.slice (some ⟨w.heap.size, 0, none⟩) len len) ∧
      w'.ownsRow w.heap.size 5 1 (.slice (some ⟨w.heap.size, 0, none⟩) len len) len ((zs.take len).map (Value.int .u8)) ∧ Below w.heap.size w w' := by
  by_cases h0 : len = 0
  · subst h0
    simpa using clone_empty w x cap
  · obtain ⟨b, off, rfl, hc'⟩ := ints_at hc (by omega)
    exact clone_own w b off len cap zs hlen (by omega) hc'

/-- An element of an owned row of bytes. -/
theorem own_cell {w : World} {B g n c : Nat} {xs : List Int} (h : w.ownsRow B 5 1 (.slice (some ⟨g, 0, none⟩) n c) n (xs.map (Value.int .u8))) (j : Nat) (hj : j < n) : w.cell? ⟨g, j, none⟩ = some (.int .u8 (xs.getD j 0)) := by
  have hl : xs.length = n := by have := h.1; simpa using this
  rw [h.cellAt j (by omega)]
  simp [hl, hj]

/-- One element laid in a block of its own and appended to the call's own row: what was below B stands. -/
theorem step_below {B g : Nat} {a w w1 : World} {o : Obj} (h : Below B a w) (hB : B ≤ w.heap.size) (hg : B ≤ g) (hgrow : (w.alloc o).grownBy w1 (some g)) : Below B a w1 :=
  (h.alloc hB o).grown hgrow (by simp; omega) (by intro k e; cases e; exact hg)

theorem one_u8 {x : Int} : ∀ u ∈ [Value.int .u8 x], u.oneCell' = true := by intro u hu; simp at hu; subst hu; rfl
end Go.Proofs.Qxb6603032a.Clone
