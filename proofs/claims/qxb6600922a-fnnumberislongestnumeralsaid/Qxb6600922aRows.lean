/-
  No cell of these rows narrows 'for every input' (looked for: loops, veiled, ifaces, maps, wideKeys, modest, calm, conditions, laid).
  DERIVED. THE GIVEN ROWS OF THIS SEAT. 4 by the template 'for every input the law returns true; each argument reads behind the call as it read before'; 0 by the template 'total and deterministic' (their statements: Qxb6600922aTotals.lean).
  GIVEN WITH THE SEED: the statements are not yours to turn. If you find one false, say at which input.
  Laid BY PROGRAM, IN A SANDBOX (cutbox-rows.mjs): the forced cells as the released guide's own fill.sh prints them over the translation 83b4ae1d97774b5a… (all of the seat's roots in one cut). By AI agents, Wed Nov 11 2026. No macro, syntax, notation, axiom, sorry.
-/
import Derived.Test.Qxb6600922aChecked
import GoSem.Claim
import GoSem.ClaimJoined
import GoSem.ClaimMapViews
import Derived.JoinedTies
import Derived.KernelRfl
namespace Go.Proofs.Qxb6600922a
/- THE CELL 'sum', in the pinned program and in every row, IS THE sha256 OF THE DUMP (.gsa) THAT Qxb6600922aProg.lean LOADS. Nothing in Lean hashes anything: it is a label: what it is worth is what the hold of that sum in a sandbox is worth. -/
noncomputable def Try.pinned : Pinned := { name := "qxb6600922a", sum := "83b4ae1d97774b5a5bae09abc7db7a052068c19f5edec6806e78f4dfdc32d41e", checked := Try.checked }
namespace Rows
def none {H : Type} : Left H := { results := [], args := [] }

/-- 'zzlaws_parser_b1.FnNumberIsLongestNumeral': WHATEVER THE INPUT: true; the input reads as it did. -/
def fnNumberIsLongestNumeralSpec : ChangeSpec := { name := "fnNumberIsLongestNumeral", fn := fun _ => fun
  | [d1, d2] => { results := [.lit (.bool true)], args := [d1, d2] }
  | _ => none }
def fnNumberIsLongestNumeralRow : OpenClaim := { program := "qxb6600922a", sum := "83b4ae1d97774b5a5bae09abc7db7a052068c19f5edec6806e78f4dfdc32d41e", func := "example.com/terraspan/terraspan/zzlaws_parser_b1.FnNumberIsLongestNumeral", spec := "fnNumberIsLongestNumeral", apart := false }
def FnNumberIsLongestNumeralSaid : Prop := fnNumberIsLongestNumeralRow.holds Try.pinned (OpenSpec.ofChange fnNumberIsLongestNumeralSpec)

/-- ITS FALSE NEIGHBOUR: 'it returns false'. Refute it at one input. -/
def fnNumberIsLongestNumeralWrong : ChangeSpec := { name := "fnNumberIsLongestNumeral", fn := fun _ => fun
  | [d1, d2] => { results := [.lit (.bool false)], args := [d1, d2] }
  | _ => none }
def FnNumberIsLongestNumeralWrongFalsely : Prop := fnNumberIsLongestNumeralRow.holds Try.pinned (OpenSpec.ofChange fnNumberIsLongestNumeralWrong)

/-- 'zzlaws_parser_b1.FnNumberRereadsItsToken': WHATEVER THE INPUT: true; the input reads as it did. -/
def fnNumberRereadsItsTokenSpec : ChangeSpec := { name := "fnNumberRereadsItsToken", fn := fun _ => fun
  | [d1, d2, d3] => { results := [.lit (.bool true)], args := [d1, d2, d3] }
  | _ => none }
def fnNumberRereadsItsTokenRow : OpenClaim := { program := "qxb6600922a", sum := "83b4ae1d97774b5a5bae09abc7db7a052068c19f5edec6806e78f4dfdc32d41e", func := "example.com/terraspan/terraspan/zzlaws_parser_b1.FnNumberRereadsItsToken", spec := "fnNumberRereadsItsToken", apart := false }
def FnNumberRereadsItsTokenSaid : Prop := fnNumberRereadsItsTokenRow.holds Try.pinned (OpenSpec.ofChange fnNumberRereadsItsTokenSpec)

/-- ITS FALSE NEIGHBOUR: 'it returns false'. Refute it at one input. -/
def fnNumberRereadsItsTokenWrong : ChangeSpec := { name := "fnNumberRereadsItsToken", fn := fun _ => fun
  | [d1, d2, d3] => { results := [.lit (.bool false)], args := [d1, d2, d3] }
  | _ => none }
def FnNumberRereadsItsTokenWrongFalsely : Prop := fnNumberRereadsItsTokenRow.holds Try.pinned (OpenSpec.ofChange fnNumberRereadsItsTokenWrong)

/-- 'zzlaws_parser_b1.FnContinuationIsGapAutomaton': WHATEVER THE INPUT: true; the input reads as it did. -/
def fnContinuationIsGapAutomatonSpec : ChangeSpec := { name := "fnContinuationIsGapAutomaton", fn := fun _ => fun
  | [d1, d2] => { results := [.lit (.bool true)], args := [d1, d2] }
  | _ => none }
def fnContinuationIsGapAutomatonRow : OpenClaim := { program := "qxb6600922a", sum := "83b4ae1d97774b5a5bae09abc7db7a052068c19f5edec6806e78f4dfdc32d41e", func := "example.com/terraspan/terraspan/zzlaws_parser_b1.FnContinuationIsGapAutomaton", spec := "fnContinuationIsGapAutomaton", inPlace := ["internal/bytealg.IndexByteString", "internal/bytealg.IndexString"], named := ["internal/bytealg.MaxLen"], apart := false }
def FnContinuationIsGapAutomatonSaid : Prop := fnContinuationIsGapAutomatonRow.holds Try.pinned (OpenSpec.ofChange fnContinuationIsGapAutomatonSpec)

/-- ITS FALSE NEIGHBOUR: 'it returns false'. Refute it at one input. -/
def fnContinuationIsGapAutomatonWrong : ChangeSpec := { name := "fnContinuationIsGapAutomaton", fn := fun _ => fun
  | [d1, d2] => { results := [.lit (.bool false)], args := [d1, d2] }
  | _ => none }
def FnContinuationIsGapAutomatonWrongFalsely : Prop := fnContinuationIsGapAutomatonRow.holds Try.pinned (OpenSpec.ofChange fnContinuationIsGapAutomatonWrong)

/-- 'zzlaws_parser_b1.FnContinuationLooksOnlyAtTheGap': WHATEVER THE INPUT: true; the input reads as it did. -/
def fnContinuationLooksOnlyAtTheGapSpec : ChangeSpec := { name := "fnContinuationLooksOnlyAtTheGap", fn := fun _ => fun
  | [d1, d2, d3] => { results := [.lit (.bool true)], args := [d1, d2, d3] }
  | _ => none }
def fnContinuationLooksOnlyAtTheGapRow : OpenClaim := { program := "qxb6600922a", sum := "83b4ae1d97774b5a5bae09abc7db7a052068c19f5edec6806e78f4dfdc32d41e", func := "example.com/terraspan/terraspan/zzlaws_parser_b1.FnContinuationLooksOnlyAtTheGap", spec := "fnContinuationLooksOnlyAtTheGap", inPlace := ["internal/bytealg.IndexByteString", "internal/bytealg.IndexString"], named := ["internal/bytealg.MaxLen"], apart := false }
def FnContinuationLooksOnlyAtTheGapSaid : Prop := fnContinuationLooksOnlyAtTheGapRow.holds Try.pinned (OpenSpec.ofChange fnContinuationLooksOnlyAtTheGapSpec)

/-- ITS FALSE NEIGHBOUR: 'it returns false'. Refute it at one input. -/
def fnContinuationLooksOnlyAtTheGapWrong : ChangeSpec := { name := "fnContinuationLooksOnlyAtTheGap", fn := fun _ => fun
  | [d1, d2, d3] => { results := [.lit (.bool false)], args := [d1, d2, d3] }
  | _ => none }
def FnContinuationLooksOnlyAtTheGapWrongFalsely : Prop := fnContinuationLooksOnlyAtTheGapRow.holds Try.pinned (OpenSpec.ofChange fnContinuationLooksOnlyAtTheGapWrong)

end Rows
end Go.Proofs.Qxb6600922a
