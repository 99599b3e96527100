/-
  THE CLOSED FACTS OF THE ROW 'fnNumberIsLongestNumeral', ONE THEOREM EACH: so that the kernel gives its memory back behind each (asked at once they come near the lid of 10,240 MB).
-/
import Derived.Test.Qxb6600922aWord
import Derived.JoinedOf
import Derived.KernelRfl
namespace Go.Proofs.Qxb6600922a.fnNumberIsLongestNumeralClosed
open Go

theorem both {a b : Bool} (h : a = true) (k : b = true) : (a && b) = true := by rw [h, k]; rfl

/-- The facts, joined. -/
theorem joined {P : Program} {f : FuncId} {fn : Func} {s : ChangeSpec} {c : OpenClaim}
    (k1 : (c.wf (OpenSpec.ofChange s)) = true)
    (k2 : (laidOutB P) = true)
    (k3 : (mapsRowed P) = true)
    (k4 : (fn.params.all (P.readableRec ·)) = true)
    (k5 : (namedTie P c.named s.vars) = true)
    (k6 : ((c.stops == [])) = true)
    (k7 : ((P.stops == [])) = true)
    (k8 : ((c.knobs == [])) = true)
    (k9 : ((P.stopKnobs == [])) = true)
    (k10 : ((c.inPlace == P.inPlace f)) = true)
    (k11 : ((c.unfollowed == P.unfollowed f)) = true)
    (k12 : ((c.recurses == P.recurses f)) = true)
    (k13 : ((c.named == P.varsNamed f)) = true)
    (k14 : ((c.maps == (fn.params.toList ++ s.plain.varTypes P).any (P.mapsRec ·))) = true)
    (k15 : ((c.ifaces == (fn.params.toList ++ s.plain.varTypes P).any (P.ifacesRec ·))) = true)
    (k16 : ((c.mapsOut == P.mapsAmong fn.resultTypes.toList)) = true)
    (k17 : ((c.loops == (fn.params.toList ++ s.plain.varTypes P).any (P.loopsFrom ·))) = true)
    (k18 : ((c.wideKeys == (fn.params.toList ++ s.plain.varTypes P ++ fn.resultTypes.toList).any (P.wideKeysFrom ·))) = true)
    (k19 : (s.vars.all (P.varReadable ·)) = true)
    (k20 : (fn.resultTypes.all (fun t => P.readableRec t && decide (t < P.types.size))) = true)
    (k21 : ((c.ifacesOut == fn.resultTypes.toList.any (P.ifacesRec ·))) = true)
    (k22 : ((c.loopsOut == fn.resultTypes.toList.any (P.loopsFrom ·))) = true)
    (k23 : ((c.plainKeys == P.plainKeys)) = true)
    (k24 : (c.shortTexts.isNone) = true)
    (k25 : (P.stopsHeard) = true)
    (k26 : (P.mayEnter) = true)
    (k27 : ((c.lifted == P.liftsFinal)) = true)
    (k28 : ((P.make == some c.make)) = true)
    (k29 : ((c.kinds == (if c.domain.isEmpty then [] else fn.params.toList.map fun t => match P.underlying t with | some (.int k) => some k | _ => none))) = true)
    (k30 : ((c.pinned == c.pinnedBy)) = true)
    (k31 : ((c.veiled == (fn.params.toList ++ s.plain.varTypes P ++ fn.resultTypes.toList).any (P.veiledRec ·))) = true)
    (k32 : (c.veiledFits P fn.params.toList (fn.params.toList ++ s.plain.varTypes P ++ fn.resultTypes.toList)) = true)
    : joinedFacts P f fn s c = true := by
  unfold joinedFacts
  exact (both (both (both (both (both (both (both (both (both (both (both (both (both (both (both (both (both (both (both (both (both (both (both (both (both (both (both (both (both (both (both k1 k2) k3) k4) k5) k6) k7) k8) k9) k10) k11) k12) k13) k14) k15) k16) k17) k18) k19) k20) k21) k22) k23) k24) k25) k26) k27) k28) k29) k30) k31) k32)

theorem c1 : (Rows.fnNumberIsLongestNumeralRow.wf (OpenSpec.ofChange Rows.fnNumberIsLongestNumeralSpec)) = true := by kernel_rfl
theorem c2 : (laidOutB Try.pinned.checked.prog) = true := by kernel_rfl
theorem c3 : (mapsRowed Try.pinned.checked.prog) = true := by kernel_rfl
theorem c4 : (Try.f3.params.all (Try.pinned.checked.prog.readableRec ·)) = true := by kernel_rfl
theorem c5 : (namedTie Try.pinned.checked.prog Rows.fnNumberIsLongestNumeralRow.named Rows.fnNumberIsLongestNumeralSpec.vars) = true := by kernel_rfl
theorem c6 : ((Rows.fnNumberIsLongestNumeralRow.stops == [])) = true := by kernel_rfl
theorem c7 : ((Try.pinned.checked.prog.stops == [])) = true := by kernel_rfl
theorem c8 : ((Rows.fnNumberIsLongestNumeralRow.knobs == [])) = true := by kernel_rfl
theorem c9 : ((Try.pinned.checked.prog.stopKnobs == [])) = true := by kernel_rfl
theorem c10 : ((Rows.fnNumberIsLongestNumeralRow.inPlace == Try.pinned.checked.prog.inPlace 3)) = true := by kernel_rfl
theorem c11 : ((Rows.fnNumberIsLongestNumeralRow.unfollowed == Try.pinned.checked.prog.unfollowed 3)) = true := by kernel_rfl
theorem c12 : ((Rows.fnNumberIsLongestNumeralRow.recurses == Try.pinned.checked.prog.recurses 3)) = true := by kernel_rfl
theorem c13 : ((Rows.fnNumberIsLongestNumeralRow.named == Try.pinned.checked.prog.varsNamed 3)) = true := by kernel_rfl
theorem c14 : ((Rows.fnNumberIsLongestNumeralRow.maps == (Try.f3.params.toList ++ Rows.fnNumberIsLongestNumeralSpec.plain.varTypes Try.pinned.checked.prog).any (Try.pinned.checked.prog.mapsRec ·))) = true := by kernel_rfl
theorem c15 : ((Rows.fnNumberIsLongestNumeralRow.ifaces == (Try.f3.params.toList ++ Rows.fnNumberIsLongestNumeralSpec.plain.varTypes Try.pinned.checked.prog).any (Try.pinned.checked.prog.ifacesRec ·))) = true := by kernel_rfl
theorem c16 : ((Rows.fnNumberIsLongestNumeralRow.mapsOut == Try.pinned.checked.prog.mapsAmong Try.f3.resultTypes.toList)) = true := by kernel_rfl
theorem c17 : ((Rows.fnNumberIsLongestNumeralRow.loops == (Try.f3.params.toList ++ Rows.fnNumberIsLongestNumeralSpec.plain.varTypes Try.pinned.checked.prog).any (Try.pinned.checked.prog.loopsFrom ·))) = true := by kernel_rfl
theorem c18 : ((Rows.fnNumberIsLongestNumeralRow.wideKeys == (Try.f3.params.toList ++ Rows.fnNumberIsLongestNumeralSpec.plain.varTypes Try.pinned.checked.prog ++ Try.f3.resultTypes.toList).any (Try.pinned.checked.prog.wideKeysFrom ·))) = true := by kernel_rfl
theorem c19 : (Rows.fnNumberIsLongestNumeralSpec.vars.all (Try.pinned.checked.prog.varReadable ·)) = true := by kernel_rfl
theorem c20 : (Try.f3.resultTypes.all (fun t => Try.pinned.checked.prog.readableRec t && decide (t < Try.pinned.checked.prog.types.size))) = true := by kernel_rfl
theorem c21 : ((Rows.fnNumberIsLongestNumeralRow.ifacesOut == Try.f3.resultTypes.toList.any (Try.pinned.checked.prog.ifacesRec ·))) = true := by kernel_rfl
theorem c22 : ((Rows.fnNumberIsLongestNumeralRow.loopsOut == Try.f3.resultTypes.toList.any (Try.pinned.checked.prog.loopsFrom ·))) = true := by kernel_rfl
theorem c23 : ((Rows.fnNumberIsLongestNumeralRow.plainKeys == Try.pinned.checked.prog.plainKeys)) = true := by kernel_rfl
theorem c24 : (Rows.fnNumberIsLongestNumeralRow.shortTexts.isNone) = true := by kernel_rfl
theorem c25 : (Try.pinned.checked.prog.stopsHeard) = true := by kernel_rfl
theorem c26 : (Try.pinned.checked.prog.mayEnter) = true := Word.enter_of Word.word Word.later Word.reflects Word.door
theorem c27 : ((Rows.fnNumberIsLongestNumeralRow.lifted == Try.pinned.checked.prog.liftsFinal)) = true := (congrArg (fun x => Rows.fnNumberIsLongestNumeralRow.lifted == x) (Word.final_of Word.word)).trans (by kernel_rfl)
theorem c28 : ((Try.pinned.checked.prog.make == some Rows.fnNumberIsLongestNumeralRow.make)) = true := (congrArg (fun x => x == some Rows.fnNumberIsLongestNumeralRow.make) (Word.make_of Word.word)).trans (by kernel_rfl)
theorem c29 : ((Rows.fnNumberIsLongestNumeralRow.kinds == (if Rows.fnNumberIsLongestNumeralRow.domain.isEmpty then [] else Try.f3.params.toList.map fun t => match Try.pinned.checked.prog.underlying t with | some (.int k) => some k | _ => none))) = true := by kernel_rfl
theorem c30 : ((Rows.fnNumberIsLongestNumeralRow.pinned == Rows.fnNumberIsLongestNumeralRow.pinnedBy)) = true := by kernel_rfl
theorem c31 : ((Rows.fnNumberIsLongestNumeralRow.veiled == (Try.f3.params.toList ++ Rows.fnNumberIsLongestNumeralSpec.plain.varTypes Try.pinned.checked.prog ++ Try.f3.resultTypes.toList).any (Try.pinned.checked.prog.veiledRec ·))) = true := by kernel_rfl
theorem c32 : (Rows.fnNumberIsLongestNumeralRow.veiledFits Try.pinned.checked.prog Try.f3.params.toList (Try.f3.params.toList ++ Rows.fnNumberIsLongestNumeralSpec.plain.varTypes Try.pinned.checked.prog ++ Try.f3.resultTypes.toList)) = true := by kernel_rfl

theorem closed : joinedFacts Try.pinned.checked.prog 3 Try.f3 Rows.fnNumberIsLongestNumeralSpec Rows.fnNumberIsLongestNumeralRow = true :=
  joined (f := 3) (fn := Try.f3) (s := Rows.fnNumberIsLongestNumeralSpec) (c := Rows.fnNumberIsLongestNumeralRow) c1 c2 c3 c4 c5 c6 c7 c8 c9 c10 c11 c12 c13 c14 c15 c16 c17 c18 c19 c20 c21 c22 c23 c24 c25 c26 c27 c28 c29 c30 c31 c32
end Go.Proofs.Qxb6600922a.fnNumberIsLongestNumeralClosed
