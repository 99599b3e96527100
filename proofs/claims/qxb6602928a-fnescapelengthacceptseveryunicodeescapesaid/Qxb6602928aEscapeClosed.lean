/-
  THE CLOSED FACTS OF THE ROW 'fnEscapeLengthAcceptsEveryUnicodeEscape'. Three of them read the head's long word: asked of the kernel as they stand they come near the lid of 10,240 MB; here they are taken by lemmas (the text Word), and the kernel reckons the rest.
-/
import Derived.Test.Qxb6602928aWord
import Derived.JoinedOf
import Derived.KernelRfl
namespace Go.Proofs.Qxb6602928a.fnEscapeLengthAcceptsEveryUnicodeEscapeClosed
open Go

theorem closed : joinedFacts Try.pinned.checked.prog 8 Try.f8 Rows.fnEscapeLengthAcceptsEveryUnicodeEscapeSpec Rows.fnEscapeLengthAcceptsEveryUnicodeEscapeRow = true := by
  unfold joinedFacts
  rw [show Try.pinned.checked.prog.mayEnter = true from Word.enter_of Word.word Word.later Word.reflects Word.door,
    show Try.pinned.checked.prog.liftsFinal = false from Word.final_of Word.word,
    show Try.pinned.checked.prog.make = some .cut from Word.make_of Word.word]
  kernel_rfl
end Go.Proofs.Qxb6602928a.fnEscapeLengthAcceptsEveryUnicodeEscapeClosed
