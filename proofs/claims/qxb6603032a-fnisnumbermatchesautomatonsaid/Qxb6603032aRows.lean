/-
  No cell of these rows narrows 'for every input' (looked for: loops, veiled, ifaces, maps, wideKeys, modest, calm, conditions, laid).
  DERIVED. THE GIVEN ROWS OF THIS SEAT. 4 by the template 'for every input the law returns true; each argument reads behind the call as it read before'; 0 by the template 'total and deterministic' (their statements: Qxb6603032aTotals.lean).
  GIVEN WITH THE SEED: the statements are not yours to turn. If you find one false, say at which input.
  Laid BY PROGRAM, IN A SANDBOX (cutbox-rows.mjs): the forced cells as the released guide's own fill.sh prints them over the translation 095dd07738a1871b… (all of the seat's roots in one cut). By AI agents, Wed Nov 11 2026. No macro, syntax, notation, axiom, sorry.
-/
import Derived.Test.Qxb6603032aChecked
import GoSem.Claim
import GoSem.ClaimJoined
import GoSem.ClaimMapViews
import Derived.JoinedTies
import Derived.KernelRfl
namespace Go.Proofs.Qxb6603032a
/- THE CELL 'sum', in the pinned program and in every row, IS THE sha256 OF THE DUMP (.gsa) THAT Qxb6603032aProg.lean LOADS. Nothing in Lean hashes anything: it is a label: what it is worth is what the hold of that sum in a sandbox is worth. -/
noncomputable def Try.pinned : Pinned := { name := "qxb6603032a", sum := "095dd07738a1871b6be9680b321818c02e894c7c27f82b20f44365d00930b67e", checked := Try.checked }
namespace Rows
def none {H : Type} : Left H := { results := [], args := [] }

/-- 'zzlaws_compare_b1.FnIsNumberMatchesAutomaton': WHATEVER THE INPUT: true; the input reads as it did. -/
def fnIsNumberMatchesAutomatonSpec : ChangeSpec := { name := "fnIsNumberMatchesAutomaton", fn := fun _ => fun
  | [d1, d2] => { results := [.lit (.bool true)], args := [d1, d2] }
  | _ => none }
def fnIsNumberMatchesAutomatonRow : OpenClaim := { program := "qxb6603032a", sum := "095dd07738a1871b6be9680b321818c02e894c7c27f82b20f44365d00930b67e", func := "example.com/verdictline/verdictline/zzlaws_compare_b1.FnIsNumberMatchesAutomaton", spec := "fnIsNumberMatchesAutomaton", apart := false }
def FnIsNumberMatchesAutomatonSaid : Prop := fnIsNumberMatchesAutomatonRow.holds Try.pinned (OpenSpec.ofChange fnIsNumberMatchesAutomatonSpec)

/-- ITS FALSE NEIGHBOUR: 'it returns false'. Refute it at one input. -/
def fnIsNumberMatchesAutomatonWrong : ChangeSpec := { name := "fnIsNumberMatchesAutomaton", fn := fun _ => fun
  | [d1, d2] => { results := [.lit (.bool false)], args := [d1, d2] }
  | _ => none }
def FnIsNumberMatchesAutomatonWrongFalsely : Prop := fnIsNumberMatchesAutomatonRow.holds Try.pinned (OpenSpec.ofChange fnIsNumberMatchesAutomatonWrong)

/-- 'zzlaws_compare_b1.FnIsNumberFloatIsNumberLessPlainIntegers': WHATEVER THE INPUT: true; the input reads as it did. -/
def fnIsNumberFloatIsNumberLessPlainIntegersSpec : ChangeSpec := { name := "fnIsNumberFloatIsNumberLessPlainIntegers", fn := fun _ => fun
  | [d] => { results := [.lit (.bool true)], args := [d] }
  | _ => none }
def fnIsNumberFloatIsNumberLessPlainIntegersRow : OpenClaim := { program := "qxb6603032a", sum := "095dd07738a1871b6be9680b321818c02e894c7c27f82b20f44365d00930b67e", func := "example.com/verdictline/verdictline/zzlaws_compare_b1.FnIsNumberFloatIsNumberLessPlainIntegers", spec := "fnIsNumberFloatIsNumberLessPlainIntegers", apart := false }
def FnIsNumberFloatIsNumberLessPlainIntegersSaid : Prop := fnIsNumberFloatIsNumberLessPlainIntegersRow.holds Try.pinned (OpenSpec.ofChange fnIsNumberFloatIsNumberLessPlainIntegersSpec)

/-- ITS FALSE NEIGHBOUR: 'it returns false'. Refute it at one input. -/
def fnIsNumberFloatIsNumberLessPlainIntegersWrong : ChangeSpec := { name := "fnIsNumberFloatIsNumberLessPlainIntegers", fn := fun _ => fun
  | [d] => { results := [.lit (.bool false)], args := [d] }
  | _ => none }
def FnIsNumberFloatIsNumberLessPlainIntegersWrongFalsely : Prop := fnIsNumberFloatIsNumberLessPlainIntegersRow.holds Try.pinned (OpenSpec.ofChange fnIsNumberFloatIsNumberLessPlainIntegersWrong)

/-- 'zzlaws_compare_b1.FnIsNumberSignPrefixInvariant': WHATEVER THE INPUT: true; the input reads as it did. -/
def fnIsNumberSignPrefixInvariantSpec : ChangeSpec := { name := "fnIsNumberSignPrefixInvariant", fn := fun _ => fun
  | [d1, d2] => { results := [.lit (.bool true)], args := [d1, d2] }
  | _ => none }
def fnIsNumberSignPrefixInvariantRow : OpenClaim := { program := "qxb6603032a", sum := "095dd07738a1871b6be9680b321818c02e894c7c27f82b20f44365d00930b67e", func := "example.com/verdictline/verdictline/zzlaws_compare_b1.FnIsNumberSignPrefixInvariant", spec := "fnIsNumberSignPrefixInvariant", apart := false }
def FnIsNumberSignPrefixInvariantSaid : Prop := fnIsNumberSignPrefixInvariantRow.holds Try.pinned (OpenSpec.ofChange fnIsNumberSignPrefixInvariantSpec)

/-- ITS FALSE NEIGHBOUR: 'it returns false'. Refute it at one input. -/
def fnIsNumberSignPrefixInvariantWrong : ChangeSpec := { name := "fnIsNumberSignPrefixInvariant", fn := fun _ => fun
  | [d1, d2] => { results := [.lit (.bool false)], args := [d1, d2] }
  | _ => none }
def FnIsNumberSignPrefixInvariantWrongFalsely : Prop := fnIsNumberSignPrefixInvariantRow.holds Try.pinned (OpenSpec.ofChange fnIsNumberSignPrefixInvariantWrong)

/-- 'zzlaws_compare_b1.FnIsSpaceNeverInNumber': WHATEVER THE INPUT: true; the input reads as it did. -/
def fnIsSpaceNeverInNumberSpec : ChangeSpec := { name := "fnIsSpaceNeverInNumber", fn := fun _ => fun
  | [d] => { results := [.lit (.bool true)], args := [d] }
  | _ => none }
def fnIsSpaceNeverInNumberRow : OpenClaim := { program := "qxb6603032a", sum := "095dd07738a1871b6be9680b321818c02e894c7c27f82b20f44365d00930b67e", func := "example.com/verdictline/verdictline/zzlaws_compare_b1.FnIsSpaceNeverInNumber", spec := "fnIsSpaceNeverInNumber", apart := false }
def FnIsSpaceNeverInNumberSaid : Prop := fnIsSpaceNeverInNumberRow.holds Try.pinned (OpenSpec.ofChange fnIsSpaceNeverInNumberSpec)

/-- ITS FALSE NEIGHBOUR: 'it returns false'. Refute it at one input. -/
def fnIsSpaceNeverInNumberWrong : ChangeSpec := { name := "fnIsSpaceNeverInNumber", fn := fun _ => fun
  | [d] => { results := [.lit (.bool false)], args := [d] }
  | _ => none }
def FnIsSpaceNeverInNumberWrongFalsely : Prop := fnIsSpaceNeverInNumberRow.holds Try.pinned (OpenSpec.ofChange fnIsSpaceNeverInNumberWrong)

end Rows
end Go.Proofs.Qxb6603032a
