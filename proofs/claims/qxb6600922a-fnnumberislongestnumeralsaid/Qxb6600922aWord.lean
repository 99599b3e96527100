import Derived.Test.Qxb6600922aRows
import Derived.JoinedOf
import Derived.KernelRfl
namespace Go.Proofs.Qxb6600922a.Word
open Go

set_option maxRecDepth 100000 in
theorem signs : ∃ l : List Char, Try.prog.initOrder = String.ofList l ∧ (behindMainWord (wordsSigns l)).head? = some "cut".toList := by
  refine ⟨_, rfl, ?_⟩
  kernel_rfl

theorem word : (behindMainWord (wordsSigns Try.prog.initOrder.toList)).head? = some "cut".toList := by
  obtain ⟨l, h1, h2⟩ := signs
  rw [h1, String.toList_ofList]
  exact h2

theorem strip (rest : List (List Char)) : stripLifts liftWords ("cut".toList :: rest) = ([], "cut".toList :: rest) := by kernel_rfl

theorem word_cons {P : Program} (h : (behindMainWord (wordsSigns P.initOrder.toList)).head? = some "cut".toList) : ∃ rest, behindMainWord (wordsSigns P.initOrder.toList) = "cut".toList :: rest := by
  cases hb : behindMainWord (wordsSigns P.initOrder.toList) with
  | nil => rw [hb] at h; cases h
  | cons c r => rw [hb] at h; simp only [List.head?_cons, Option.some.injEq] at h; exact ⟨r, by rw [h]⟩

theorem lifts_of {P : Program} (h : (behindMainWord (wordsSigns P.initOrder.toList)).head? = some "cut".toList) : P.headLifts = [] := by
  obtain ⟨r, hr⟩ := word_cons h
  unfold Program.headLifts
  rw [hr, strip]
  rfl

theorem final_of {P : Program} (h : (behindMainWord (wordsSigns P.initOrder.toList)).head? = some "cut".toList) : P.liftsFinal = false := by
  obtain ⟨r, hr⟩ := word_cons h
  unfold Program.liftsFinal
  rw [lifts_of h, hr]
  kernel_rfl

theorem make_of {P : Program} (h : (behindMainWord (wordsSigns P.initOrder.toList)).head? = some "cut".toList) : P.make = some .cut := by
  obtain ⟨r, hr⟩ := word_cons h
  unfold Program.make
  rw [hr]
  kernel_rfl

theorem enter_of {P : Program} (h : (behindMainWord (wordsSigns P.initOrder.toList)).head? = some "cut".toList) (h1 : (!P.laysLater) = true) (h2 : (!P.bearsReflect) = true) (h3 : P.doorFits [] = true) : P.mayEnter = true := by
  obtain ⟨r, hr⟩ := word_cons h
  unfold Program.mayEnter
  rw [hr]
  simp only [strip, h1, h2, h3]
  kernel_rfl

theorem later : (!Try.prog.laysLater) = true := by kernel_rfl
theorem reflects : (!Try.prog.bearsReflect) = true := by kernel_rfl
theorem door : Try.prog.doorFits [] = true := by kernel_rfl
end Go.Proofs.Qxb6600922a.Word
