import Derived.Test.Qxb6602928aClone
import Derived.Deep.QuietTactic
import Derived.BigQuiet
import Derived.Deep.LoopGhost
import Derived.WalkSmall
namespace Go.Proofs.Qxb6602928a.Decoder
open Go.ChangeShapes Go.WideShapes Go.ChangeAt Go.RowKit
open Clone

/-- The decoder in block D: its data, its place, its depth. -/
def Dc (w : World) (D : Nat) (ad : Option Addr) (n cap : Nat) (p d : Int) : Prop :=
  w.heap[D]? = some (.cells #[.slice ad n cap, .int .i64 p, .int .i64 d] 44 (0, 0))

/-- The bytes that a slice value leads to. -/
def Buf (w : World) (ad : Option Addr) (g : Nat) (zs : List Int) : Prop :=
  ∀ i, i < zs.length → ad = some ⟨g, 0, none⟩ ∧ w.cell? ⟨g, i, none⟩ = some (.int .u8 (zs.getD i 0)) ∧ 0 ≤ zs.getD i 0 ∧ zs.getD i 0 ≤ 255

section
variable {w w' : World} {D g n cap : Nat} {ad : Option Addr} {p d : Int} {zs : List Int}
theorem Dc.data (h : Dc w D ad n cap p d) : w.cell? ⟨D, 0, none⟩ = some (.slice ad n cap) := by unfold Dc at h; simp [World.cell?, h]
theorem Dc.pos (h : Dc w D ad n cap p d) : w.cell? ⟨D, 1, none⟩ = some (.int .i64 p) := by unfold Dc at h; simp [World.cell?, h]
theorem Dc.depth (h : Dc w D ad n cap p d) : w.cell? ⟨D, 2, none⟩ = some (.int .i64 d) := by unfold Dc at h; simp [World.cell?, h]
theorem Dc.free (h : Dc w D ad n cap p d) (j : Nat) : w.frozen? ⟨D, j, none⟩ = false := by unfold Dc at h; exact frozen_of_row w D j _ 44 h
theorem Dc.lt (h : Dc w D ad n cap p d) : D < w.heap.size := by
  unfold Dc at h
  exact (Array.getElem?_eq_some_iff.1 h).1
theorem Dc.moved (h : Dc w D ad n cap p d) (q : Int) : Dc (w.setCell ⟨D, 1, none⟩ (.int .i64 q)) D ad n cap q d := by
  unfold Dc at h ⊢
  simp [World.setCell, Array.getElem?_modify, h]
theorem Dc.drewN (h : Dc w D ad n cap p d) (k : Nat) : Dc (w.drewN k) D ad n cap p d := h
theorem Buf.below (h : Buf w ad g zs) (hb : Below D w w') (hg : 0 < zs.length → g < D) : Buf w' ad g zs := fun i hi =>
  ⟨(h i hi).1, (hb.cell (p := ⟨g, i, none⟩) (hg (by omega))).trans (h i hi).2.1, (h i hi).2.2⟩
end

/-- The clone of a slice that is not nil, as bytes to read. -/
theorem clone_buf (w : World) (x : Addr) (len cap : Nat) (z0 : List Int) (hlen : len ≤ 1048576) (hl : len ≤ cap) (hz : z0.length = cap)
    (hc : ∀ i, i < z0.length → w.cell? (x.add i) = some (.int .u8 (z0.getD i 0))) (hw : ∀ n ∈ z0, (Lit.int .u8 n).wf = true) :
    ∃ zs : List Int, zs.length = len ∧ Calls Try.prog 11 #[.slice (some x) len cap] w fun e w' => e = .returned (.slice (some ⟨w.heap.size, 0, none⟩) len len) ∧
      Buf w' (some ⟨w.heap.size, 0, none⟩) w.heap.size zs ∧ w.heap.size < w'.heap.size ∧ Below w.heap.size w w' := by
  refine ⟨z0.take len, by simp; omega, ?_⟩
  refine (clone_some w x len cap z0 hlen hl hz hc).mono ?_
  rintro e w' ⟨rfl, hown, hb⟩
  refine ⟨rfl, ?_, (own_lt hown).2, hb⟩
  intro i hi
  have hi' : i < len := by simp at hi; omega
  refine ⟨rfl, own_cell hown i hi', ?_⟩
  have e : (z0.take len).getD i 0 = z0[i]'(by omega) := by simp [hi', show i < z0.length by omega]
  rw [e]
  exact bounds_u8 (hw _ (List.getElem_mem _))
end Go.Proofs.Qxb6602928a.Decoder
