import Derived.Test.Qxb6602928aNumStep
namespace Go.Proofs.Qxb6602928a.Num
open Go.ChangeShapes Go.WideShapes Go.ChangeAt Go.RowKit
open Clone Decoder

theorem Buf.nth {w : World} {ad : Option Addr} {g : Nat} {zs : List Int} (h : Buf w ad g zs) (q : Nat) (hq : q < zs.length) :
    ad = some ⟨g, 0, none⟩ ∧ w.cell? ⟨g, q, none⟩ = some (.int .u8 (nth zs q)) ∧ 0 ≤ nth zs q ∧ nth zs q ≤ 255 := h q hq

set_option maxHeartbeats 800000 in
theorem model_some (w : World) (g cap p : Nat) (zs : List Int) (hn : zs.length ≤ 1048576) (hp : p ≤ zs.length)
    (hB : Buf w (some ⟨g, 0, none⟩) g zs) (en : Nat) (ok : Bool) (hr : Hid ((runP zs 0 p).1 = en ∧ acc (runP zs 0 p).2 = ok)) :
    Calls Try.prog 12 #[.slice (some ⟨g, 0, none⟩) zs.length cap, .int .i64 p] w fun e w' => e = .returned (.tuple #[.int .i64 en, .bool ok]) ∧ w = w' := by
  have HB : Hid (Buf w (some ⟨g, 0, none⟩) g zs) := hB
  clear hB
  go_enter Try.func12, Try.ntmps12
  go_wp2
  go_loop [6, 7] (fun f i => ∃ s : Int, ∃ q : Nat, 0 ≤ s ∧ s ≤ 8 ∧ q ≤ zs.length ∧ i = .int .i64 q ∧ f = .int .i64 s ∧ Hid (runP zs s q = runP zs 0 p)) (fun _ i => zs.length - (intOf i).toNat)
  case atStart => exact ⟨0, p, by omega, by omega, hp, rfl, rfl, rfl⟩
  case round =>
    obtain ⟨s, q, hs0, hs1, hq, rfl, rfl, hR⟩ := hrel
    by_cases hlt : q < zs.length
    · obtain ⟨-, hcx, hx0, hx1⟩ := Buf.nth HB.out q hlt
      have hst := runP_step zs s q hlt
      obtain ⟨x, hx⟩ : ∃ x : Int, Hid (x = nth zs q) := ⟨_, rfl⟩
      rw [← hx.out] at hcx hx0 hx1 hst
      obtain ⟨t, ht⟩ : ∃ t : Int, Hid (t = step s x) := ⟨_, rfl⟩
      have hbd := step_bd s x
      rw [← ht.out] at hst hbd
      have hC : Hid (Calls Try.prog 25 #[.int .i64 s, .int .u8 x] w fun e w' => e = .returned (.int .i64 t) ∧ w = w') := by
        rw [ht.out]; exact step_any s x hs0 hs1 w
      have q1 : (q : Int) < (zs.length : Int) := by omega
      by_cases hneg : t < 0
      · rw [if_pos hneg] at hst
        have HE : Hid (q = en ∧ acc s = ok) := by
          have h1 := hr.out
          rw [← hR.out, hst] at h1; exact h1
        clear hst hbd
        obtain ⟨rfl, h2⟩ := HE.out
        have hA : Hid (Calls Try.prog 26 #[.int .i64 s] w fun e w' => e = .returned (.bool ok) ∧ w = w') := by
          rw [← h2]; exact acc_any s hs0 hs1 w
        clear h2 HE
        go_wp2_with (first | (go_at_call 25; refine hC.out.mono ?_; rintro e w2 ⟨rfl, rfl⟩) | (go_at_call 26; refine hA.out.mono ?_; rintro e w2 ⟨rfl, rfl⟩))
        go_ret2
        exact ⟨rfl, rfl⟩
      · rw [if_neg hneg] at hst
        have HR : Hid (runP zs t (q + 1) = runP zs 0 p) := by rw [← hst]; exact hR
        have h0 : 0 ≤ t := by omega
        have h8 : t ≤ 8 := hbd.2
        clear hst hbd hneg
        go_wp2_with (go_at_call 25; refine hC.out.mono ?_; rintro e w2 ⟨rfl, rfl⟩)
        go_round
        case rel => exact ⟨t, q + 1, h0, h8, by omega, by go_num, rfl, HR⟩
        case measure => simp [intOf]; omega
    · have q1 : ¬ (q : Int) < (zs.length : Int) := by omega
      have HE : Hid (q = en ∧ acc s = ok) := by
        have h1 := hr.out
        rw [← hR.out, runP_end zs s q (by omega)] at h1; exact h1
      obtain ⟨rfl, h2⟩ := HE.out
      have hA : Hid (Calls Try.prog 26 #[.int .i64 s] w fun e w' => e = .returned (.bool ok) ∧ w = w') := by
        rw [← h2]; exact acc_any s hs0 hs1 w
      clear h2 HE
      go_wp2_with (go_at_call 26; refine hA.out.mono ?_; rintro e w2 ⟨rfl, rfl⟩)
      go_ret2
      exact ⟨rfl, rfl⟩

set_option maxHeartbeats 400000 in
theorem model_nil (w : World) : Calls Try.prog 12 #[.slice none 0 0, .int .i64 0] w fun e w' => e = .returned (.tuple #[.int .i64 0, .bool false]) ∧ w = w' := by
  go_enter Try.func12, Try.ntmps12
  go_wp2
  refine wp_loop_rounds 1 ?_
  rw [rounds_succ]
  go_wp2
  go_ret2
  exact ⟨rfl, rfl⟩
end Go.Proofs.Qxb6602928a.Num
