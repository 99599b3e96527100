/-
  THE SHELL OF A PROOF OF 'Rows.FnHeadOfCaseTableSaid' ('example.com/ration/ration/zzlaws_root_b1.FnHeadOfCaseTable'), WRITTEN BY PROGRAM (proof-skeleton.mjs) off the guide's own print for that function. Not trusted: Lean checks it.
  THE WALK IS THE PROVER's. ALL ELSE IS THE GUIDE's TEMPLATE (howto/template/XProofs.lean) at this function's number and types: leave it.
-/
import Derived.Test.Qxb6601000aRows
import Derived.Test.Qxb6601000aHead
import Derived.WalkKit
import Derived.ProofKit
import Derived.OpenShut
import Derived.ShutString
namespace Go.Proofs.Qxb6601000a.fnHeadOfCaseTable
open Go.ChangeShapes Go.WideShapes Go.ChangeAt Go.RowKit
open Go.ChangeMaps (open_string shut_string)
set_option linter.unusedVariables false      -- a walk need not use every 'w<i>' (that an integer argument fits its kind)

theorem own : ownKnob Try.prog.godebug = none := by kernel_rfl

/-! ### STEP 1: THE WALK: the Go text returns true. 'Grown w w'': the world has at most new blocks (Derived/RowKit3.lean). Part the cases AHEAD of 'go_enter' where a test parts the walk; take each callee by a contract of your own. -/
theorem walk (a0 : Int) (a1 : Int) (a2 : ByteArray) (w0 : (Lit.int .u8 a0).wf = true) (w1 : (Lit.int .u64 a1).wf = true) (w2 : a2.size ≤ maxLen) (w : World) :
    Calls Try.prog 6 #[.int .u8 a0, .int .u64 a1, .string a2] w fun e w' => e = .returned (.bool true) ∧ Grown w w' := by
  have b0 := bounds_u8 w0
  unfold maxLen at w2
  by_cases hbig : 1048576 < a2.size
  · have hb : (1048576 : Int) < (a2.size : Int) := by omega
    go_enter Try.func6, Try.ntmps6
    go_wp2
    go_ret
    exact ⟨rfl, by repeat (first | exact Grown.refl _ | apply Grown.drew | apply Grown.alloc)⟩
  have hb : ¬ (1048576 : Int) < (a2.size : Int) := by omega
  by_cases hf : 3 < a0
  · have hf2 : (3 : Int) < a0 := hf
    go_enter Try.func6, Try.ntmps6
    go_wp2
    go_ret
    exact ⟨rfl, by repeat (first | exact Grown.refl _ | apply Grown.drew | apply Grown.alloc)⟩
  obtain h | h | h | h : a0 = 0 ∨ a0 = 1 ∨ a0 = 2 ∨ a0 = 3 := by omega
  · subst h
    by_cases hl : 125 < a2.size
    · have hl' : (125 : Int) < (a2.size : Int) := by omega
      go_enter Try.func6, Try.ntmps6
      go_wp2
      go_ret
      exact ⟨rfl, by repeat (first | exact Grown.refl _ | apply Grown.drew | apply Grown.alloc)⟩
    have hl' : ¬ (125 : Int) < (a2.size : Int) := by omega
    obtain ⟨h, hh⟩ : ∃ h : Int, Hid (h = 2 * (a2.size : Int)) := ⟨_, rfl⟩
    have k1 : 0 ≤ h := by have := hh.out; omega
    have k2 : h < 252 := by have := hh.out; omega
    have k3 : (h / 2 != (a2.size : Int)) = false := by have := hh.out; simp; omega
    have k4 : (h % 2 == 1) = false := by have := hh.out; simp; omega
    clear hl hbig hf b0 w0 w2
    go_enter Try.func6, Try.ntmps6
    go_wp2_with (first | (go_at_call 14; refine (Head.text_short _ h _ (by omega) hh _).mono ?_; rintro e w' ⟨rfl, hg⟩) | go_in)
    go_ret
    exact ⟨rfl, hg⟩
  · subst h
    by_cases hl : 125 < a2.size
    · have hl' : (125 : Int) < (a2.size : Int) := by omega
      go_enter Try.func6, Try.ntmps6
      go_wp2
      go_ret
      exact ⟨rfl, by repeat (first | exact Grown.refl _ | apply Grown.drew | apply Grown.alloc)⟩
    have hl' : ¬ (125 : Int) < (a2.size : Int) := by omega
    obtain ⟨h, hh⟩ : ∃ h : Int, Hid (h = 2 * (a2.size : Int) + 1) := ⟨_, rfl⟩
    have k1 : 0 ≤ h := by have := hh.out; omega
    have k2 : h < 252 := by have := hh.out; omega
    have k3 : (h / 2 != (a2.size : Int)) = false := by have := hh.out; simp; omega
    have k4 : (h % 2 == 1) = true := by have := hh.out; simp; omega
    clear hl hbig hf b0 w0 w2
    go_enter Try.func6, Try.ntmps6
    go_wp2_with (first | (go_at_call 14; refine (Head.name_short _ h _ (by omega) hh _).mono ?_; rintro e w' ⟨rfl, hg⟩) | go_in)
    go_ret
    exact ⟨rfl, hg⟩
  · subst h
    go_enter Try.func6, Try.ntmps6
    go_wp2
    go_ret
    exact ⟨rfl, by repeat (first | exact Grown.refl _ | apply Grown.drew | apply Grown.alloc)⟩
  · subst h
    go_enter Try.func6, Try.ntmps6
    go_wp2
    go_ret
    exact ⟨rfl, by repeat (first | exact Grown.refl _ | apply Grown.drew | apply Grown.alloc)⟩

/-! ### THE ROW's STEP: WRITTEN OUT: LEAVE IT -/
set_option maxRecDepth 100000 in
theorem lifted (os : Os) (started : os.Started) (H : Type) (enc : TypeId × Value → H) :
    ReturnsInHanded {} Try.checked os 6 .any (Rows.fnHeadOfCaseTableSpec.pre6 enc Try.prog Try.f6 Rows.fnHeadOfCaseTableRow.domain false) (Rows.fnHeadOfCaseTableSpec.post enc Try.prog Try.f6 false true false false) := by
  refine returnsInHanded_of_change (C := Try.checked) own started (by kernel_rfl) Try.func6
    (ChangeSpec.witness6 (enc := enc) (C := Try.checked) false ⟨#[], #[.int .u8 0, .int .u64 0, .string ByteArray.empty], []⟩ 8 (by kernel_rfl) (by kernel_rfl) (by kernel_rfl) (by kernel_rfl)) ?_
  intro W base args ds gs before hval0 hW hcnd _
  have hval : ∀ (j : Nat) t v, Try.f6.params[j]? = some t → args[j]? = some v → Value.okWide Try.prog W .any base t v := hval0
  have hW' := hW
  obtain ⟨p, q, hA0, hV, rfl, hfz, hnd⟩ := hW
  have hA : DataW.TrodAll enc Try.prog W 0 (fun _ => true) true Try.f6.params.toList args.toList ds p := hA0
  rw [Try.params6] at hA hval
  obtain ⟨v0, vs0, d0, ds0, p0, q0, hargs, rfl, rfl, h0, r0⟩ := trodAll_cons hA
  obtain ⟨v1, vs1, d1, ds1, p1, q1, rfl, rfl, rfl, h1, r1⟩ := trodAll_cons r0
  obtain ⟨v2, vs2, d2, ds2, p2, q2, rfl, rfl, rfl, h2, r2⟩ := trodAll_cons r1
  obtain ⟨rfl, rfl, rfl⟩ := trodAll_nil r2
  obtain rfl : args = #[v0, v1, v2] := by cases args; simp_all
  obtain ⟨rfl, rfl⟩ := trodVars_none hV
  obtain ⟨a0, rfl, rfl, rfl, w0⟩ := open_int Try.underlying5 (hval 0 5 v0 rfl rfl) h0
  obtain ⟨a1, rfl, rfl, rfl, w1⟩ := open_int Try.underlying28 (hval 1 28 v1 rfl rfl) h1
  obtain ⟨a2, rfl, rfl, rfl, w2⟩ := open_string Try.underlying9 (hval 2 9 v2 rfl rfl) h2
  clear hA0 hval0
  simp only [List.append_nil] at hW'
  refine (walk a0 a1 a2 w0 w1 w2 W).mono fun e W' ⟨he, hg⟩ => ?_
  subst he
  exact ⟨_, rfl, post_of_same (pa := []) (pv := []) hW' (fun _ _ _ => (trodAll_cons_mk (shut_bool Try.underlying4 _) trodAll_mk0)) (fun sp _ => (trodAll_cons_mk (shut_int Try.underlying5 w0) (trodAll_cons_mk (shut_int Try.underlying28 w1) (trodAll_cons_mk (shut_string Try.underlying9 w2) trodAll_mk0)))) (fun _ _ => rfl) rfl
    (hg.frame _) hg.2.1 (ok_one (by kernel_rfl) rfl (okWide_bool_mk Try.underlying4 _))⟩

theorem over : Rows.fnHeadOfCaseTableRow.holds Try.pinned (OpenSpec.ofChange Rows.fnHeadOfCaseTableSpec) :=
  OpenClaim.holds_of_wide 6 Try.f6 rfl rfl rfl rfl rfl rfl rfl ⟨rfl, rfl, rfl, rfl, rfl⟩ rfl rfl rfl rfl rfl (by kernel_rfl) Try.func6 (by kernel_rfl)
    (of_decide_eq_true (by kernel_rfl)) (by unfold Func.isWrapper; first | (rw [if_pos (by decide +kernel)]; kernel_rfl) | (rw [if_neg (by decide +kernel)]; exact ⟨rfl, rfl⟩))
    (fun os started H enc _ => lifted os started H enc)

/-- ████ THE STATEMENT ████ -/
theorem proved : Rows.FnHeadOfCaseTableSaid :=
  over
#print axioms proved
end Go.Proofs.Qxb6601000a.fnHeadOfCaseTable
