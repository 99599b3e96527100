/-
  THE SHELL OF A PROOF OF 'Rows.FnNumberMatchesGrammarAutomatonSaid' ('example.com/model-handoff/model-handoff/zzlaws_internal_exactjson_b1.FnNumberMatchesGrammarAutomaton'), WRITTEN BY PROGRAM (proof-skeleton.mjs, third state) off the guide's own print for that function. Not trusted: Lean checks it.
  THE WALK IS THE PROVER's; the closed facts are asked one by one in a text of their own (Closed). ALL ELSE IS THE GUIDE's OWN WAY (howto/template/XProofs.lean; Derived/Test/ChunkProofs.lean for 'Below') at this function's number and types: leave it.
-/
import Derived.Test.Qxb6602928aRows
import Derived.Test.Qxb6602928aNumZZ
import Derived.Test.Qxb6602928aNumClosed
import Derived.WalkKit
import Derived.ProofKit
import Derived.OpenShut
import Derived.ShutString
import Derived.ChangeOld
import Derived.Below
namespace Go.Proofs.Qxb6602928a.fnNumberMatchesGrammarAutomaton
open Go.ChangeShapes Go.WideShapes Go.ChangeAt Go.RowKit
open Go.ChangeMaps (open_string shut_string)
set_option linter.unusedVariables false

theorem own : ownKnob Try.prog.godebug = none := by kernel_rfl
theorem laidOut : laidOutB Try.prog = true := by kernel_rfl

/-- WHAT THE WALK IS TOLD OF A SLICE OF INTEGERS THAT CAME IN: it is nil; or it leads to a row of 'cap' cells, the numbers 'zs' (the first 'len' are its elements, the rest its spare room), each fitting its kind. -/
def IsRow (k : IntKind) (w : World) (a : Option Addr) (len cap : Nat) (zs : List Int) : Prop :=
  (a = none ∧ len = 0 ∧ cap = 0 ∧ zs = []) ∨
  ∃ x, a = some x ∧ len ≤ cap ∧ cap ≤ maxLen ∧ zs.length = cap ∧ (∀ i, i < zs.length → w.cell? (x.add i) = some (.int k (zs.getD i 0))) ∧ ∀ n ∈ zs, (Lit.int k n).wf = true

open Clone Decoder Num
theorem hid_of {p : Prop} (h : p) : Hid p := h
set_option maxHeartbeats 800000 in
theorem law_bad (x : Addr) (zs : List Int) (cap p : Nat) (d : Int) (w : World) (hn : zs.length ≤ 1048576) (hp : p ≤ zs.length)
    (HC : Hid (Calls Try.prog 11 #[.slice (some x) zs.length cap] w fun e w' => e = .returned (.slice (some ⟨w.heap.size, 0, none⟩) zs.length zs.length) ∧
      Buf w' (some ⟨w.heap.size, 0, none⟩) w.heap.size zs ∧ w.heap.size < w'.heap.size ∧ Below w.heap.size w w')) (en : Nat) (hE : Hid (numP zs p = (en, false))) (hR : Hid ((runP zs 0 p).1 = en ∧ acc (runP zs 0 p).2 = false)) :
    Calls Try.prog 3 #[.slice (some x) zs.length cap, .int .i64 p, .int .i64 d] w fun e w' => e = .returned (.bool true) ∧ Below w.heap.size w w' := by
  have hq := fun (w : World) (a : Option Addr) (l c : Nat) => Lib.run_eql_slice_nil (P := Try.prog) w 22 5 a l c 0 0 Try.underlying22
  have q1 : ¬ (1048576 : Int) < (zs.length : Int) := by omega
  have q2 : ¬ (p : Int) < 0 := by omega
  have q3 : ¬ (zs.length : Int) < (p : Int) := by omega
  go_enter Try.func3, Try.ntmps3
  go_wp2_with (first | (go_at_call 11; refine HC.out.mono ?_; rintro e w1 ⟨rfl, hB, hg, hb⟩; have HB := hid_of hB; clear hB) | (go_at_call 12; refine (model_some _ w.heap.size _ p zs hn hp HB.out en false hR).mono ?_; rintro e w2 ⟨rfl, rfl⟩) | (go_at_call 13; refine (zz_as _ w.heap.size _ p _ d zs hn (Nat.le_refl _) hn HB.out (fun _ => hg) hp en false hE (.slice none 0 0) rfl).mono ?_; rintro e w3 ⟨rfl, hb3⟩) | go_in)
  go_ret
  exact ⟨rfl, hb.trans (hb3.mono (Nat.le_of_lt hg))⟩

theorem cell_at {w1 w3 : World} {g : Nat} {zs : List Int} {p : Nat} (hB : Buf w1 (some ⟨g, 0, none⟩) g zs) (hb : Below w1.heap.size w1 w3) (hg : g < w1.heap.size) (i : Nat) (hi : p + i < zs.length) :
    w3.cell? ⟨g, p + i, none⟩ = some (.int .u8 ((zs.drop p).getD i 0)) := by
  have h := (hB (p + i) hi).2.1
  rw [hb.cell (p := ⟨g, p + i, none⟩) hg, h]
  simp

set_option maxHeartbeats 1600000 in
theorem law_ok (x : Addr) (zs : List Int) (cap p : Nat) (d : Int) (w : World) (hn : zs.length ≤ 1048576) (hp : p ≤ zs.length)
    (HC : Hid (Calls Try.prog 11 #[.slice (some x) zs.length cap] w fun e w' => e = .returned (.slice (some ⟨w.heap.size, 0, none⟩) zs.length zs.length) ∧
      Buf w' (some ⟨w.heap.size, 0, none⟩) w.heap.size zs ∧ w.heap.size < w'.heap.size ∧ Below w.heap.size w w')) (en : Nat) (hE : Hid (numP zs p = (en, true))) (hR : Hid ((runP zs 0 p).1 = en ∧ acc (runP zs 0 p).2 = true)) (hpe : p < en) (hen : en ≤ zs.length) :
    Calls Try.prog 3 #[.slice (some x) zs.length cap, .int .i64 p, .int .i64 d] w fun e w' => e = .returned (.bool true) ∧ Below w.heap.size w w' := by
  have q1 : ¬ (1048576 : Int) < (zs.length : Int) := by omega
  have q2 : ¬ (p : Int) < 0 := by omega
  have q3 : ¬ (zs.length : Int) < (p : Int) := by omega
  have q4 : (p : Int) ≤ (en : Int) := by omega
  have q5 : (en : Int) ≤ (zs.length : Int) := by omega
  go_enter Try.func3, Try.ntmps3
  go_wp2_with (first | (go_at_call 11; refine HC.out.mono ?_; rintro e w1 ⟨rfl, hB, hg, hb⟩; have HB := hid_of hB; clear hB) | (go_at_call 12; refine (model_some _ w.heap.size _ p zs hn hp HB.out en true hR).mono ?_; rintro e w2 ⟨rfl, rfl⟩) | (go_at_call 13; refine (zz_as _ w.heap.size _ p _ d zs hn (Nat.le_refl _) hn HB.out (fun _ => hg) hp en true hE (.slice (some ⟨w.heap.size, p, none⟩) (en - p) (zs.length - p)) rfl).mono ?_; rintro e w3 ⟨rfl, hb3⟩) | (go_at_call 14; refine (same_any _ w.heap.size p (en - p) _ _ (zs.drop p) (by omega) (fun i hi => cell_at HB.out hb3 hg i (by omega))).mono ?_; rintro e w4 ⟨rfl, k, rfl⟩) | go_in)
  go_ret
  exact ⟨rfl, below_drewN (hb.trans (hb3.mono (Nat.le_of_lt hg))) _⟩

set_option maxHeartbeats 800000 in
theorem law_nil (d : Int) (w : World) :
    Calls Try.prog 3 #[.slice none 0 0, .int .i64 0, .int .i64 d] w fun e w' => e = .returned (.bool true) ∧ Below w.heap.size w w' := by
  have hq := fun (w : World) (a : Option Addr) (l c : Nat) => Lib.run_eql_slice_nil (P := Try.prog) w 22 5 a l c 0 0 Try.underlying22
  go_enter Try.func3, Try.ntmps3
  go_wp2_with (first | (go_at_call 11; refine (clone_nil _ _ _).mono ?_; rintro e w1 ⟨rfl, rfl⟩) | (go_at_call 12; refine (model_nil _).mono ?_; rintro e w2 ⟨rfl, rfl⟩) | (go_at_call 13; refine (zz_as _ 0 0 0 none d [] (by simp) (by simp) (by simp) (by intro i hi; cases hi) (by intro h; cases h) (by simp) 0 false rfl (.slice none 0 0) rfl).mono ?_; rintro e w3 ⟨rfl, hb3⟩) | go_in)
  go_ret
  exact ⟨rfl, hb3⟩

/-- The numbers of the law: the automaton's end is number's. -/
theorem ends (zs : List Int) (p : Nat) (hp : p ≤ zs.length) : ∃ en ok, numP zs p = (en, ok) ∧ (runP zs 0 p).1 = en ∧ acc (runP zs 0 p).2 = ok :=
  ⟨(numP zs p).1, (numP zs p).2, rfl, num_law zs p hp⟩

/-! ### STEP 1: THE WALK: the Go text returns true, AND WRITES NOTHING THAT WAS THERE: 'Below w.heap.size w w'' (Derived/Below.lean: '.refl', '.alloc', '.drew', '.setCell' at a new block, '.trans'). Open each 'IsRow' by 'rcases' AHEAD of 'go_enter'; part every test ahead of the walk. -/
theorem walk (a0 : Option Addr) (len0 cap0 : Nat) (z0 : List Int) (a1 : Int) (a2 : Int) (w : World) (w0 : IsRow .u8 w a0 len0 cap0 z0) (w1 : (Lit.int .i64 a1).wf = true) (w2 : (Lit.int .i64 a2).wf = true) :
    Calls Try.prog 3 #[.slice a0 len0 cap0, .int .i64 a1, .int .i64 a2] w fun e w' => e = .returned (.bool true) ∧ Below w.heap.size w w' := by
  rcases w0 with ⟨rfl, rfl, rfl, rfl⟩ | ⟨x, rfl, hl, hm, hz, hc, hwf⟩
  · by_cases h0 : a1 = 0
    · subst h0
      exact law_nil a2 w
    · rcases Int.lt_or_gt_of_ne h0 with h1 | h1
      · go_enter Try.func3, Try.ntmps3
        go_wp2
        go_ret
        exact ⟨rfl, Below.refl _ _⟩
      · have h2 : ¬ a1 < 0 := by omega
        go_enter Try.func3, Try.ntmps3
        go_wp2
        go_ret
        exact ⟨rfl, Below.refl _ _⟩
  · by_cases hlen : len0 ≤ 1048576
    · by_cases h1 : a1 < 0
      · have q1 : ¬ (1048576 : Int) < (len0 : Int) := by omega
        clear hc hwf
        go_enter Try.func3, Try.ntmps3
        go_wp2
        go_ret
        exact ⟨rfl, Below.refl _ _⟩
      · by_cases h2 : (len0 : Int) < a1
        · have q1 : ¬ (1048576 : Int) < (len0 : Int) := by omega
          clear hc hwf
          go_enter Try.func3, Try.ntmps3
          go_wp2
          go_ret
          exact ⟨rfl, Below.refl _ _⟩
        · obtain ⟨p, rfl⟩ : ∃ p : Nat, a1 = p := ⟨a1.toNat, by omega⟩
          obtain ⟨zs, hzl, HC⟩ := clone_buf w x len0 cap0 z0 hlen hl hz hc hwf
          clear hc hwf
          subst hzl
          obtain ⟨en, ok, hE, hR1, hR2⟩ := ends zs p (by omega)
          cases ok with
          | false => exact law_bad x zs cap0 p a2 w hlen (by omega) HC en hE ⟨hR1, hR2⟩
          | true =>
            have hb := num_bounds zs p (by omega)
            rw [hE] at hb
            exact law_ok x zs cap0 p a2 w hlen (by omega) HC en hE ⟨hR1, hR2⟩ (hb.2.2 rfl) hb.2.1
    · have q1 : (1048576 : Int) < (len0 : Int) := by omega
      clear hc hwf
      go_enter Try.func3, Try.ntmps3
      go_wp2
      go_ret
      exact ⟨rfl, Below.refl _ _⟩

/-! ### THE ROW's STEP: WRITTEN OUT: LEAVE IT -/
set_option maxRecDepth 100000 in
theorem lifted (os : Os) (started : os.Started) (H : Type) (enc : TypeId × Value → H) :
    ReturnsInHanded {} Try.checked os 3 .any (Rows.fnNumberMatchesGrammarAutomatonSpec.pre6 enc Try.prog Try.f3 Rows.fnNumberMatchesGrammarAutomatonRow.domain false) (Rows.fnNumberMatchesGrammarAutomatonSpec.post enc Try.prog Try.f3 false true false false) := by
  refine returnsInHanded_of_change (C := Try.checked) own started (by kernel_rfl) Try.func3
    (ChangeSpec.witness6 (enc := enc) (C := Try.checked) false ⟨#[], #[.slice none 0 0, .int .i64 0, .int .i64 0], []⟩ 8 (by kernel_rfl) (by kernel_rfl) (by kernel_rfl) (by kernel_rfl)) ?_
  intro W base args ds gs before hval0 hW hcnd _
  have hval : ∀ (j : Nat) t v, Try.f3.params[j]? = some t → args[j]? = some v → Value.okWide Try.prog W .any base t v := hval0
  have hW' := hW
  obtain ⟨p, q, hA0, hV, rfl, hfz, hnd⟩ := hW
  have hA : DataW.TrodAll enc Try.prog W 0 (fun _ => true) true Try.f3.params.toList args.toList ds p := hA0
  rw [Try.params3] at hA hval
  obtain ⟨v0, vs0, d0, ds0, p0, q0, hargs, rfl, rfl, h0, r0⟩ := trodAll_cons hA
  obtain ⟨v1, vs1, d1, ds1, p1, q1, rfl, rfl, rfl, h1, r1⟩ := trodAll_cons r0
  obtain ⟨v2, vs2, d2, ds2, p2, q2, rfl, rfl, rfl, h2, r2⟩ := trodAll_cons r1
  obtain ⟨rfl, rfl, rfl⟩ := trodAll_nil r2
  obtain rfl : args = #[v0, v1, v2] := by cases args; simp_all
  obtain ⟨rfl, rfl⟩ := trodVars_none hV
  obtain ⟨a0, len0, cap0, rfl⟩ := okWide_slice Try.underlying22 (hval 0 22 v0 rfl rfl)
  have k0 := h0
  have lt0 : ∀ x ∈ p0, x.block < W.heap.size := by obtain ⟨m, hm⟩ := k0; exact DataW.trod_lt m _ _ _ hm
  obtain ⟨z0, w0⟩ : ∃ zs, IsRow .u8 W a0 len0 cap0 zs := by
    obtain ⟨fuel, hf⟩ := h0
    rcases open_ints Try.underlying22 Try.underlying5 (by kernel_rfl) hf with ⟨hcs, _⟩ | ⟨x, l, c, zs, hcs, _, hl, hm, hz, _, hcell, hwz⟩
    · simp [Value.cells] at hcs
      obtain ⟨rfl, rfl, rfl⟩ := hcs
      exact ⟨[], .inl ⟨rfl, rfl, rfl, rfl⟩⟩
    · simp [Value.cells] at hcs
      obtain ⟨rfl, rfl, rfl⟩ := hcs
      exact ⟨zs, .inr ⟨_, rfl, hl, hm, by simpa using hz, hcell, hwz⟩⟩
  obtain ⟨a1, rfl, rfl, rfl, w1⟩ := open_int Try.underlying3 (hval 1 3 v1 rfl rfl) h1
  obtain ⟨a2, rfl, rfl, rfl, w2⟩ := open_int Try.underlying3 (hval 2 3 v2 rfl rfl) h2
  clear hA0 hval0
  refine (walk a0 len0 cap0 z0 a1 a2 W w0 w1 w2).mono fun e W' ⟨he, bel⟩ => ?_
  subst he
  exact ⟨_, rfl, _, _, _, [], _, [], hW', trodAll_mk1 (shut_bool Try.underlying4 _), (trodAll_cons_mk (Below.trod laidOut (by kernel_rfl) (of_decide_eq_true (by kernel_rfl)) k0 bel lt0) (trodAll_cons_mk (shut_int Try.underlying3 w1) (trodAll_cons_mk (shut_int Try.underlying3 w2) trodAll_mk0))), rfl, bel.frame _, fun h => by cases h⟩

theorem over : Rows.fnNumberMatchesGrammarAutomatonRow.holds Try.pinned (OpenSpec.ofChange Rows.fnNumberMatchesGrammarAutomatonSpec) :=
  OpenClaim.holds_of_wide 3 Try.f3 rfl rfl rfl rfl rfl rfl rfl ⟨rfl, rfl, rfl, rfl, rfl⟩ rfl rfl rfl rfl rfl (by kernel_rfl) Try.func3 fnNumberMatchesGrammarAutomatonClosed.closed
    (of_decide_eq_true (by kernel_rfl)) (by unfold Func.isWrapper; first | (rw [if_pos (by decide +kernel)]; kernel_rfl) | (rw [if_neg (by decide +kernel)]; exact ⟨rfl, rfl⟩))
    (fun os started H enc _ => lifted os started H enc)

/-- ████ THE STATEMENT ████ -/
theorem proved : Rows.FnNumberMatchesGrammarAutomatonSaid := over
#print axioms proved
end Go.Proofs.Qxb6602928a.fnNumberMatchesGrammarAutomaton
