/-
  THE SHELL OF A PROOF OF 'Rows.FnIPv4KeyReadsItsCanonicalTextSaid' ('example.com/ration/ration/zzlaws_root_b1.FnIPv4KeyReadsItsCanonicalText'), WRITTEN BY PROGRAM (proof-skeleton.mjs) off the guide's own print for that function. Not trusted: Lean checks it.
  THE WALK IS THE PROVER's (its end is said by 'Below': the walk appends to a row of its own). ALL ELSE IS THE GUIDE's TEMPLATE at this function's number and types, the last line of 'lifted' as the template has it for slices.
-/
import Derived.Test.Qxb6601000aRows
import Derived.Test.Qxb6601000aKey
import Derived.WalkKit
import Derived.ProofKit
import Derived.OpenShut
import Derived.ShutString
import Derived.ChangeOld
import Derived.Below
namespace Go.Proofs.Qxb6601000a.fnIPv4KeyReadsItsCanonicalText
open Go.ChangeShapes Go.WideShapes Go.ChangeAt Go.RowKit
open Go.ChangeMaps (open_string shut_string)
set_option linter.unusedVariables false      -- a walk need not use every 'w<i>' (that an integer argument fits its kind)

theorem own : ownKnob Try.prog.godebug = none := by kernel_rfl

/-! ### STEP 1: THE WALK: the Go text returns true, and writes nothing that was there. -/
theorem size_le (a : Int) : (strOfNums (Dotted.pre a 4)).size ≤ 1000 := by
  rw [strOfNums_size]
  have h3 := Dotted.pre_len a 3 (by omega)
  have h := (Dotted.dec_len (Dotted.byt a 3)).2
  show (Dotted.pre a 3 ++ Dec.dec (Dotted.byt a 3) ++ []).length ≤ 1000
  simp; omega

set_option maxHeartbeats 400000 in
theorem walk (a0 : Int) (w0 : (Lit.int .u32 a0).wf = true) (w : World) :
    Calls Try.prog 4 #[.int .u32 a0] w fun e w' => e = .returned (.bool true) ∧ Below w.heap.size w w' := by
  have b0 := bounds_u32 w0
  obtain ⟨s, hs⟩ : ∃ s, Hid (s = strOfNums (Dotted.pre a0 4)) := ⟨_, rfl⟩
  have hsz : s.size ≤ 1000 := by rw [hs.out]; exact size_le a0
  have hd : Calls Try.prog 11 #[.int .u32 a0] w fun e w' => e = .returned (.string s) ∧ Below w.heap.size w w' := by
    rw [hs.out]; exact Dotted.dotted_any a0 w b0.1 b0.2
  have HD : Hid (Calls Try.prog 11 #[.int .u32 a0] w fun e w' => e = .returned (.string s) ∧ Below w.heap.size w w') := hd
  clear hd
  go_enter Try.func4, Try.ntmps4
  go_wp2_with (first | (go_at_call 11; refine (HD.out).mono ?_; rintro e w1 ⟨rfl, hb⟩) | (go_at_call 17; refine (Key.key_reads a0 b0.1 b0.2 s hs hsz _).mono ?_; rintro e w2 ⟨rfl, rfl⟩) | go_in)
  go_ret
  exact ⟨rfl, hb⟩

/-! ### THE ROW's STEP: WRITTEN OUT: LEAVE IT -/
set_option maxRecDepth 100000 in
theorem lifted (os : Os) (started : os.Started) (H : Type) (enc : TypeId × Value → H) :
    ReturnsInHanded {} Try.checked os 4 .any (Rows.fnIPv4KeyReadsItsCanonicalTextSpec.pre6 enc Try.prog Try.f4 Rows.fnIPv4KeyReadsItsCanonicalTextRow.domain false) (Rows.fnIPv4KeyReadsItsCanonicalTextSpec.post enc Try.prog Try.f4 false true false false) := by
  refine returnsInHanded_of_change (C := Try.checked) own started (by kernel_rfl) Try.func4
    (ChangeSpec.witness6 (enc := enc) (C := Try.checked) false ⟨#[], #[.int .u32 0], []⟩ 8 (by kernel_rfl) (by kernel_rfl) (by kernel_rfl) (by kernel_rfl)) ?_
  intro W base args ds gs before hval0 hW hcnd _
  have hval : ∀ (j : Nat) t v, Try.f4.params[j]? = some t → args[j]? = some v → Value.okWide Try.prog W .any base t v := hval0
  have hW' := hW
  obtain ⟨p, q, hA0, hV, rfl, hfz, hnd⟩ := hW
  have hA : DataW.TrodAll enc Try.prog W 0 (fun _ => true) true Try.f4.params.toList args.toList ds p := hA0
  rw [Try.params4] at hA hval
  obtain ⟨v0, vs0, d0, ds0, p0, q0, hargs, rfl, rfl, h0, r0⟩ := trodAll_cons hA
  obtain ⟨rfl, rfl, rfl⟩ := trodAll_nil r0
  obtain rfl : args = #[v0] := by cases args; simp_all
  obtain ⟨rfl, rfl⟩ := trodVars_none hV
  obtain ⟨a0, rfl, rfl, rfl, w0⟩ := open_int Try.underlying23 (hval 0 23 v0 rfl rfl) h0
  clear hA0 hval0
  simp only [List.append_nil] at hW'
  refine (walk a0 w0 W).mono fun e W' ⟨he, hg⟩ => ?_
  subst he
  exact ⟨_, rfl, _, _, _, [], _, [], hW', trodAll_mk1 (shut_bool Try.underlying4 _), (trodAll_cons_mk (shut_int Try.underlying23 w0) trodAll_mk0), rfl, hg.frame _, fun h => by cases h⟩

theorem over : Rows.fnIPv4KeyReadsItsCanonicalTextRow.holds Try.pinned (OpenSpec.ofChange Rows.fnIPv4KeyReadsItsCanonicalTextSpec) :=
  OpenClaim.holds_of_wide 4 Try.f4 rfl rfl rfl rfl rfl rfl rfl ⟨rfl, rfl, rfl, rfl, rfl⟩ rfl rfl rfl rfl rfl (by kernel_rfl) Try.func4 (by kernel_rfl)
    (of_decide_eq_true (by kernel_rfl)) (by unfold Func.isWrapper; first | (rw [if_pos (by decide +kernel)]; kernel_rfl) | (rw [if_neg (by decide +kernel)]; exact ⟨rfl, rfl⟩))
    (fun os started H enc _ => lifted os started H enc)

/-- ████ THE STATEMENT ████ -/
theorem proved : Rows.FnIPv4KeyReadsItsCanonicalTextSaid :=
  over
#print axioms proved
end Go.Proofs.Qxb6601000a.fnIPv4KeyReadsItsCanonicalText
