/-
  THE SHELL OF A PROOF OF 'Rows.FnNumberIsLongestNumeralSaid' ('example.com/terraspan/terraspan/zzlaws_parser_b1.FnNumberIsLongestNumeral'), WRITTEN BY PROGRAM (proof-skeleton.mjs) off the guide's own print for that function. Not trusted: Lean checks it.
  THE WALK IS THE PROVER's (its end is said by 'Below'); the closed facts are asked one by one in a text of their own (Closed). ALL ELSE IS THE GUIDE's TEMPLATE at this function's number and types, the last line of 'lifted' as the template has it for slices.
-/
import Derived.Test.Qxb6600922aRows
import Derived.Test.Qxb6600922aLexD
import Derived.Test.Qxb6600922aClosed
import Derived.WalkKit
import Derived.ProofKit
import Derived.OpenShut
import Derived.ShutString
import Derived.ChangeOld
import Derived.Below
namespace Go.Proofs.Qxb6600922a.fnNumberIsLongestNumeral
open Go.ChangeShapes Go.WideShapes Go.ChangeAt Go.RowKit
open Go.ChangeMaps (open_string shut_string)
set_option linter.unusedVariables false      -- a walk need not use every 'w<i>' (that an integer argument fits its kind)

theorem own : ownKnob Try.prog.godebug = none := by kernel_rfl

/-! ### STEP 1: THE WALK: the Go text returns true, and writes nothing that was there. -/
open Plain Model Lexer
set_option maxHeartbeats 800000 in
theorem zz_any (s : ByteArray) (zs : List Int) (p : Nat) (w : World) (hT : Txt s zs) (hn : s.size ≤ 1048576) (hp : p ≤ s.size) (en : Nat) (hE : Hid (numE zs p = en)) :
    Calls Try.prog 8 #[.string s, .int .i64 p] w fun e w' => e = .returned (.tuple #[.string (s.extract p en), .int .i64 en]) ∧ Below w.heap.size w w' := by
  have HS : Hid (St w w.heap.size s (w.alloc (.cells #[.string s, .int .i64 p, .int .i64 0, .int .i64 0, .int .i64 0] 29)) p) := ⟨heap_alloc_new w _, (Below.refl _ _).alloc (Nat.le_refl _) _⟩
  have HT : Hid (Txt s zs) := hT
  clear hT
  go_enter Try.func8, Try.ntmps8
  go_wp2_with (go_at_call 15; refine (number_any w _ w.heap.size p s zs HT.out hn hp HS.out en hE).mono ?_; rintro e w2 ⟨rfl, hS2⟩; have d1 := hS2.pos)
  go_ret2
  exact ⟨rfl, hS2.2⟩

set_option maxHeartbeats 800000 in
theorem law_in (s : ByteArray) (p : Nat) (w : World) (hn : s.size ≤ 1048576) (hp : p ≤ s.size) (en : Nat) (hE : Hid (numE (numsOf s) p = en)) (hM : Hid (mdP (numsOf s) 0 p p = en)) (h1 : p ≤ en) (h2 : en ≤ s.size) :
    Calls Try.prog 3 #[.string s, .int .i64 p] w fun e w' => e = .returned (.bool true) ∧ Below w.heap.size w w' := by
  have q1 : ¬ (1048576 : Int) < (s.size : Int) := by omega
  have q2 : ¬ (p : Int) < 0 := by omega
  have q3 : ¬ (s.size : Int) < (p : Int) := by omega
  have q4 : (p : Int) ≤ (en : Int) := by omega
  have q5 : (en : Int) ≤ (s.size : Int) := by omega
  go_enter Try.func3, Try.ntmps3
  go_wp2_with (first | (go_at_call 8; refine (zz_any s (numsOf s) p _ (Txt.of s) hn hp en hE).mono ?_; rintro e w1 ⟨rfl, hb⟩) | (go_at_call 9; refine (end_any s (numsOf s) p _ (Txt.of s) hn hp en hM).mono ?_; rintro e w2 ⟨rfl, rfl⟩) | go_in)
  go_ret
  exact ⟨rfl, hb⟩

theorem walk (a0 : ByteArray) (a1 : Int) (w0 : a0.size ≤ maxLen) (w1 : (Lit.int .i64 a1).wf = true) (w : World) :
    Calls Try.prog 3 #[.string a0, .int .i64 a1] w fun e w' => e = .returned (.bool true) ∧ Below w.heap.size w w' := by
  unfold maxLen at w0
  by_cases hlen : a0.size ≤ 1048576
  · have q1 : ¬ (1048576 : Int) < (a0.size : Int) := by omega
    by_cases h1 : a1 < 0
    · go_enter Try.func3, Try.ntmps3
      go_wp2
      go_ret
      exact ⟨rfl, Below.refl _ _⟩
    · by_cases h2 : (a0.size : Int) < a1
      · go_enter Try.func3, Try.ntmps3
        go_wp2
        go_ret
        exact ⟨rfl, Below.refl _ _⟩
      · obtain ⟨p, rfl⟩ : ∃ p : Nat, a1 = p := ⟨a1.toNat, by omega⟩
        have hz := numsOf_length a0
        have hl := Plain.law (numsOf a0) p (by omega)
        have hb := num_le (numsOf a0) p (by omega)
        exact law_in a0 p w hlen (by omega) (numE (numsOf a0) p) rfl hl hb.1 (by omega)
  · have q1 : (1048576 : Int) < (a0.size : Int) := by omega
    go_enter Try.func3, Try.ntmps3
    go_wp2
    go_ret
    exact ⟨rfl, Below.refl _ _⟩

/-! ### THE ROW's STEP: WRITTEN OUT: LEAVE IT -/
set_option maxRecDepth 100000 in
theorem lifted (os : Os) (started : os.Started) (H : Type) (enc : TypeId × Value → H) :
    ReturnsInHanded {} Try.checked os 3 .any (Rows.fnNumberIsLongestNumeralSpec.pre6 enc Try.prog Try.f3 Rows.fnNumberIsLongestNumeralRow.domain false) (Rows.fnNumberIsLongestNumeralSpec.post enc Try.prog Try.f3 false true false false) := by
  refine returnsInHanded_of_change (C := Try.checked) own started (by kernel_rfl) Try.func3
    (ChangeSpec.witness6 (enc := enc) (C := Try.checked) false ⟨#[], #[.string ByteArray.empty, .int .i64 0], []⟩ 8 (by kernel_rfl) (by kernel_rfl) (by kernel_rfl) (by kernel_rfl)) ?_
  intro W base args ds gs before hval0 hW hcnd _
  have hval : ∀ (j : Nat) t v, Try.f3.params[j]? = some t → args[j]? = some v → Value.okWide Try.prog W .any base t v := hval0
  have hW' := hW
  obtain ⟨p, q, hA0, hV, rfl, hfz, hnd⟩ := hW
  have hA : DataW.TrodAll enc Try.prog W 0 (fun _ => true) true Try.f3.params.toList args.toList ds p := hA0
  rw [Try.params3] at hA hval
  obtain ⟨v0, vs0, d0, ds0, p0, q0, hargs, rfl, rfl, h0, r0⟩ := trodAll_cons hA
  obtain ⟨v1, vs1, d1, ds1, p1, q1, rfl, rfl, rfl, h1, r1⟩ := trodAll_cons r0
  obtain ⟨rfl, rfl, rfl⟩ := trodAll_nil r1
  obtain rfl : args = #[v0, v1] := by cases args; simp_all
  obtain ⟨rfl, rfl⟩ := trodVars_none hV
  obtain ⟨a0, rfl, rfl, rfl, w0⟩ := open_string Try.underlying9 (hval 0 9 v0 rfl rfl) h0
  obtain ⟨a1, rfl, rfl, rfl, w1⟩ := open_int Try.underlying3 (hval 1 3 v1 rfl rfl) h1
  clear hA0 hval0
  simp only [List.append_nil] at hW'
  refine (walk a0 a1 w0 w1 W).mono fun e W' ⟨he, hg⟩ => ?_
  subst he
  exact ⟨_, rfl, _, _, _, [], _, [], hW', trodAll_mk1 (shut_bool Try.underlying4 _), (trodAll_cons_mk (shut_string Try.underlying9 w0) (trodAll_cons_mk (shut_int Try.underlying3 w1) trodAll_mk0)), rfl, hg.frame _, fun h => by cases h⟩

theorem over : Rows.fnNumberIsLongestNumeralRow.holds Try.pinned (OpenSpec.ofChange Rows.fnNumberIsLongestNumeralSpec) :=
  OpenClaim.holds_of_wide 3 Try.f3 rfl rfl rfl rfl rfl rfl rfl ⟨rfl, rfl, rfl, rfl, rfl⟩ rfl rfl rfl rfl rfl (by kernel_rfl) Try.func3 fnNumberIsLongestNumeralClosed.closed
    (of_decide_eq_true (by kernel_rfl)) (by unfold Func.isWrapper; first | (rw [if_pos (by decide +kernel)]; kernel_rfl) | (rw [if_neg (by decide +kernel)]; exact ⟨rfl, rfl⟩))
    (fun os started H enc _ => lifted os started H enc)

/-- ████ THE STATEMENT ████ -/
theorem proved : Rows.FnNumberIsLongestNumeralSaid :=
  over
#print axioms proved
end Go.Proofs.Qxb6600922a.fnNumberIsLongestNumeral
