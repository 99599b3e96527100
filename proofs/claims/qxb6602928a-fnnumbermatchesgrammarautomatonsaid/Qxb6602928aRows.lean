/-
  No cell of these rows narrows 'for every input' (looked for: loops, veiled, ifaces, maps, wideKeys, modest, calm, conditions, laid).
  DERIVED. THE GIVEN ROWS OF THIS SEAT. 7 by the template 'for every input the law returns true; each argument reads behind the call as it read before'; 0 by the template 'total and deterministic' (their statements: Qxb6602928aTotals.lean).
  GIVEN WITH THE SEED: the statements are not yours to turn. If you find one false, say at which input.
  Laid BY PROGRAM, IN A SANDBOX (cutbox-rows.mjs): the forced cells as the released guide's own fill.sh prints them over the translation 3b69f656b3dab6c2… (all of the seat's roots in one cut). By AI agents, Wed Nov 11 2026. No macro, syntax, notation, axiom, sorry.
-/
import Derived.Test.Qxb6602928aChecked
import GoSem.Claim
import GoSem.ClaimJoined
import GoSem.ClaimMapViews
import Derived.JoinedTies
import Derived.KernelRfl
namespace Go.Proofs.Qxb6602928a
/- THE CELL 'sum', in the pinned program and in every row, IS THE sha256 OF THE DUMP (.gsa) THAT Qxb6602928aProg.lean LOADS. Nothing in Lean hashes anything: it is a label: what it is worth is what the hold of that sum in a sandbox is worth. -/
noncomputable def Try.pinned : Pinned := { name := "qxb6602928a", sum := "3b69f656b3dab6c2df6eea8154b95828f3cc9fcf2151461b332f4ed5de27be09", checked := Try.checked }
namespace Rows
def none {H : Type} : Left H := { results := [], args := [] }

/-- 'zzlaws_internal_exactjson_b1.FnNumberMatchesGrammarAutomaton': WHATEVER THE INPUT: true; the input reads as it did. -/
def fnNumberMatchesGrammarAutomatonSpec : ChangeSpec := { name := "fnNumberMatchesGrammarAutomaton", fn := fun _ => fun
  | [d1, d2, d3] => { results := [.lit (.bool true)], args := [d1, d2, d3] }
  | _ => none }
def fnNumberMatchesGrammarAutomatonRow : OpenClaim := { program := "qxb6602928a", sum := "3b69f656b3dab6c2df6eea8154b95828f3cc9fcf2151461b332f4ed5de27be09", func := "example.com/model-handoff/model-handoff/zzlaws_internal_exactjson_b1.FnNumberMatchesGrammarAutomaton", spec := "fnNumberMatchesGrammarAutomaton", apart := false }
def FnNumberMatchesGrammarAutomatonSaid : Prop := fnNumberMatchesGrammarAutomatonRow.holds Try.pinned (OpenSpec.ofChange fnNumberMatchesGrammarAutomatonSpec)

/-- ITS FALSE NEIGHBOUR: 'it returns false'. Refute it at one input. -/
def fnNumberMatchesGrammarAutomatonWrong : ChangeSpec := { name := "fnNumberMatchesGrammarAutomaton", fn := fun _ => fun
  | [d1, d2, d3] => { results := [.lit (.bool false)], args := [d1, d2, d3] }
  | _ => none }
def FnNumberMatchesGrammarAutomatonWrongFalsely : Prop := fnNumberMatchesGrammarAutomatonRow.holds Try.pinned (OpenSpec.ofChange fnNumberMatchesGrammarAutomatonWrong)

/-- 'zzlaws_internal_exactjson_b1.FnNumberIgnoresBytesBeforePos': WHATEVER THE INPUT: true; the input reads as it did. -/
def fnNumberIgnoresBytesBeforePosSpec : ChangeSpec := { name := "fnNumberIgnoresBytesBeforePos", fn := fun _ => fun
  | [d1, d2, d3] => { results := [.lit (.bool true)], args := [d1, d2, d3] }
  | _ => none }
def fnNumberIgnoresBytesBeforePosRow : OpenClaim := { program := "qxb6602928a", sum := "3b69f656b3dab6c2df6eea8154b95828f3cc9fcf2151461b332f4ed5de27be09", func := "example.com/model-handoff/model-handoff/zzlaws_internal_exactjson_b1.FnNumberIgnoresBytesBeforePos", spec := "fnNumberIgnoresBytesBeforePos", apart := false }
def FnNumberIgnoresBytesBeforePosSaid : Prop := fnNumberIgnoresBytesBeforePosRow.holds Try.pinned (OpenSpec.ofChange fnNumberIgnoresBytesBeforePosSpec)

/-- ITS FALSE NEIGHBOUR: 'it returns false'. Refute it at one input. -/
def fnNumberIgnoresBytesBeforePosWrong : ChangeSpec := { name := "fnNumberIgnoresBytesBeforePos", fn := fun _ => fun
  | [d1, d2, d3] => { results := [.lit (.bool false)], args := [d1, d2, d3] }
  | _ => none }
def FnNumberIgnoresBytesBeforePosWrongFalsely : Prop := fnNumberIgnoresBytesBeforePosRow.holds Try.pinned (OpenSpec.ofChange fnNumberIgnoresBytesBeforePosWrong)

/-- 'zzlaws_internal_exactjson_b1.FnNumberTokenStandsAlone': WHATEVER THE INPUT: true; the input reads as it did. -/
def fnNumberTokenStandsAloneSpec : ChangeSpec := { name := "fnNumberTokenStandsAlone", fn := fun _ => fun
  | [d1, d2, d3] => { results := [.lit (.bool true)], args := [d1, d2, d3] }
  | _ => none }
def fnNumberTokenStandsAloneRow : OpenClaim := { program := "qxb6602928a", sum := "3b69f656b3dab6c2df6eea8154b95828f3cc9fcf2151461b332f4ed5de27be09", func := "example.com/model-handoff/model-handoff/zzlaws_internal_exactjson_b1.FnNumberTokenStandsAlone", spec := "fnNumberTokenStandsAlone", apart := false }
def FnNumberTokenStandsAloneSaid : Prop := fnNumberTokenStandsAloneRow.holds Try.pinned (OpenSpec.ofChange fnNumberTokenStandsAloneSpec)

/-- ITS FALSE NEIGHBOUR: 'it returns false'. Refute it at one input. -/
def fnNumberTokenStandsAloneWrong : ChangeSpec := { name := "fnNumberTokenStandsAlone", fn := fun _ => fun
  | [d1, d2, d3] => { results := [.lit (.bool false)], args := [d1, d2, d3] }
  | _ => none }
def FnNumberTokenStandsAloneWrongFalsely : Prop := fnNumberTokenStandsAloneRow.holds Try.pinned (OpenSpec.ofChange fnNumberTokenStandsAloneWrong)

/-- 'zzlaws_internal_exactjson_b1.FnPeekFindsFirstNonSpace': WHATEVER THE INPUT: true; the input reads as it did. -/
def fnPeekFindsFirstNonSpaceSpec : ChangeSpec := { name := "fnPeekFindsFirstNonSpace", fn := fun _ => fun
  | [d1, d2, d3] => { results := [.lit (.bool true)], args := [d1, d2, d3] }
  | _ => none }
def fnPeekFindsFirstNonSpaceRow : OpenClaim := { program := "qxb6602928a", sum := "3b69f656b3dab6c2df6eea8154b95828f3cc9fcf2151461b332f4ed5de27be09", func := "example.com/model-handoff/model-handoff/zzlaws_internal_exactjson_b1.FnPeekFindsFirstNonSpace", spec := "fnPeekFindsFirstNonSpace", apart := false }
def FnPeekFindsFirstNonSpaceSaid : Prop := fnPeekFindsFirstNonSpaceRow.holds Try.pinned (OpenSpec.ofChange fnPeekFindsFirstNonSpaceSpec)

/-- ITS FALSE NEIGHBOUR: 'it returns false'. Refute it at one input. -/
def fnPeekFindsFirstNonSpaceWrong : ChangeSpec := { name := "fnPeekFindsFirstNonSpace", fn := fun _ => fun
  | [d1, d2, d3] => { results := [.lit (.bool false)], args := [d1, d2, d3] }
  | _ => none }
def FnPeekFindsFirstNonSpaceWrongFalsely : Prop := fnPeekFindsFirstNonSpaceRow.holds Try.pinned (OpenSpec.ofChange fnPeekFindsFirstNonSpaceWrong)

/-- 'zzlaws_internal_exactjson_b1.FnPeekIsIdempotent': WHATEVER THE INPUT: true; the input reads as it did. -/
def fnPeekIsIdempotentSpec : ChangeSpec := { name := "fnPeekIsIdempotent", fn := fun _ => fun
  | [d1, d2, d3] => { results := [.lit (.bool true)], args := [d1, d2, d3] }
  | _ => none }
def fnPeekIsIdempotentRow : OpenClaim := { program := "qxb6602928a", sum := "3b69f656b3dab6c2df6eea8154b95828f3cc9fcf2151461b332f4ed5de27be09", func := "example.com/model-handoff/model-handoff/zzlaws_internal_exactjson_b1.FnPeekIsIdempotent", spec := "fnPeekIsIdempotent", apart := false }
def FnPeekIsIdempotentSaid : Prop := fnPeekIsIdempotentRow.holds Try.pinned (OpenSpec.ofChange fnPeekIsIdempotentSpec)

/-- ITS FALSE NEIGHBOUR: 'it returns false'. Refute it at one input. -/
def fnPeekIsIdempotentWrong : ChangeSpec := { name := "fnPeekIsIdempotent", fn := fun _ => fun
  | [d1, d2, d3] => { results := [.lit (.bool false)], args := [d1, d2, d3] }
  | _ => none }
def FnPeekIsIdempotentWrongFalsely : Prop := fnPeekIsIdempotentRow.holds Try.pinned (OpenSpec.ofChange fnPeekIsIdempotentWrong)

/-- 'zzlaws_internal_exactjson_b1.FnEscapeLengthAcceptsEveryUnicodeEscape': WHATEVER THE INPUT: true; the input reads as it did. -/
def fnEscapeLengthAcceptsEveryUnicodeEscapeSpec : ChangeSpec := { name := "fnEscapeLengthAcceptsEveryUnicodeEscape", fn := fun _ => fun
  | [d1, d2, d3] => { results := [.lit (.bool true)], args := [d1, d2, d3] }
  | _ => none }
def fnEscapeLengthAcceptsEveryUnicodeEscapeRow : OpenClaim := { program := "qxb6602928a", sum := "3b69f656b3dab6c2df6eea8154b95828f3cc9fcf2151461b332f4ed5de27be09", func := "example.com/model-handoff/model-handoff/zzlaws_internal_exactjson_b1.FnEscapeLengthAcceptsEveryUnicodeEscape", spec := "fnEscapeLengthAcceptsEveryUnicodeEscape", apart := false }
def FnEscapeLengthAcceptsEveryUnicodeEscapeSaid : Prop := fnEscapeLengthAcceptsEveryUnicodeEscapeRow.holds Try.pinned (OpenSpec.ofChange fnEscapeLengthAcceptsEveryUnicodeEscapeSpec)

/-- ITS FALSE NEIGHBOUR: 'it returns false'. Refute it at one input. -/
def fnEscapeLengthAcceptsEveryUnicodeEscapeWrong : ChangeSpec := { name := "fnEscapeLengthAcceptsEveryUnicodeEscape", fn := fun _ => fun
  | [d1, d2, d3] => { results := [.lit (.bool false)], args := [d1, d2, d3] }
  | _ => none }
def FnEscapeLengthAcceptsEveryUnicodeEscapeWrongFalsely : Prop := fnEscapeLengthAcceptsEveryUnicodeEscapeRow.holds Try.pinned (OpenSpec.ofChange fnEscapeLengthAcceptsEveryUnicodeEscapeWrong)

/-- 'zzlaws_internal_exactjson_b1.FnEscapeLengthSeesOnlyFiveBytes': WHATEVER THE INPUT: true; the input reads as it did. -/
def fnEscapeLengthSeesOnlyFiveBytesSpec : ChangeSpec := { name := "fnEscapeLengthSeesOnlyFiveBytes", fn := fun _ => fun
  | [d] => { results := [.lit (.bool true)], args := [d] }
  | _ => none }
def fnEscapeLengthSeesOnlyFiveBytesRow : OpenClaim := { program := "qxb6602928a", sum := "3b69f656b3dab6c2df6eea8154b95828f3cc9fcf2151461b332f4ed5de27be09", func := "example.com/model-handoff/model-handoff/zzlaws_internal_exactjson_b1.FnEscapeLengthSeesOnlyFiveBytes", spec := "fnEscapeLengthSeesOnlyFiveBytes", apart := false }
def FnEscapeLengthSeesOnlyFiveBytesSaid : Prop := fnEscapeLengthSeesOnlyFiveBytesRow.holds Try.pinned (OpenSpec.ofChange fnEscapeLengthSeesOnlyFiveBytesSpec)

/-- ITS FALSE NEIGHBOUR: 'it returns false'. Refute it at one input. -/
def fnEscapeLengthSeesOnlyFiveBytesWrong : ChangeSpec := { name := "fnEscapeLengthSeesOnlyFiveBytes", fn := fun _ => fun
  | [d] => { results := [.lit (.bool false)], args := [d] }
  | _ => none }
def FnEscapeLengthSeesOnlyFiveBytesWrongFalsely : Prop := fnEscapeLengthSeesOnlyFiveBytesRow.holds Try.pinned (OpenSpec.ofChange fnEscapeLengthSeesOnlyFiveBytesWrong)

end Rows
end Go.Proofs.Qxb6602928a
