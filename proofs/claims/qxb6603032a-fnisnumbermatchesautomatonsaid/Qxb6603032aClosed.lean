/-
  THE CLOSED FACTS OF THE ROW 'fnIsNumberMatchesAutomaton'. Three of them read the head's long word: asked of the kernel as they stand they come near the lid of 10,240 MB; here they are taken by lemmas (the text Word), and the kernel reckons the rest.
-/
import Derived.Test.Qxb6603032aWord
import Derived.JoinedOf
import Derived.KernelRfl
namespace Go.Proofs.Qxb6603032a.fnIsNumberMatchesAutomatonClosed
open Go

theorem closed : joinedFacts Try.pinned.checked.prog 3 Try.f3 Rows.fnIsNumberMatchesAutomatonSpec Rows.fnIsNumberMatchesAutomatonRow = true := by
  unfold joinedFacts
  rw [show Try.pinned.checked.prog.mayEnter = true from Word.enter_of Word.word Word.later Word.reflects Word.door,
    show Try.pinned.checked.prog.liftsFinal = false from Word.final_of Word.word,
    show Try.pinned.checked.prog.make = some .cut from Word.make_of Word.word]
  kernel_rfl
end Go.Proofs.Qxb6603032a.fnIsNumberMatchesAutomatonClosed
