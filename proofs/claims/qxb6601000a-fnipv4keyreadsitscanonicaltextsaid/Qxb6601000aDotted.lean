import Derived.Test.Qxb6601000aDec
import Derived.Laws.BytesArg
namespace Go.Proofs.Qxb6601000a.Dotted
open Go.ChangeShapes Go.WideShapes Go.ChangeAt Go.RowKit
open Dec

/-- The four bytes of an address, the highest first. -/
def byt (a : Int) : Nat → Int
  | 0 => a / 16777216
  | 1 => a / 65536 % 256
  | 2 => a / 256 % 256
  | _ => a % 256

/-- The text of the first j fields, a dot behind each but the last. -/
def pre (a : Int) : Nat → List Int
  | 0 => []
  | j + 1 => pre a j ++ dec (byt a j) ++ (if j < 3 then [46] else [])

theorem byt_bd (a : Int) (h0 : 0 ≤ a) (h1 : a ≤ 4294967295) (j : Nat) : 0 ≤ byt a j ∧ byt a j ≤ 255 := by
  match j with
  | 0 => simp only [byt]; omega
  | 1 => simp only [byt]; omega
  | 2 => simp only [byt]; omega
  | j + 3 => simp only [byt]; omega

theorem dec_len (v : Int) : 1 ≤ (dec v).length ∧ (dec v).length ≤ 3 := by
  unfold dec
  split <;> split <;> simp

theorem pre_len (a : Int) (j : Nat) (h : j ≤ 3) : (pre a j).length ≤ 4 * j := by
  match j with
  | 0 => simp [pre]
  | 1 => have h0 := (dec_len (byt a 0)).2; simp [pre]; omega
  | 2 => have h0 := (dec_len (byt a 0)).2; have h1 := (dec_len (byt a 1)).2; simp [pre]; omega
  | 3 => have h0 := (dec_len (byt a 0)).2; have h1 := (dec_len (byt a 1)).2; have h2 := (dec_len (byt a 2)).2; simp [pre]; omega
  | j + 4 => omega

set_option maxHeartbeats 800000 in
theorem dotted_any (a : Int) (w : World) (h0 : 0 ≤ a) (h1 : a ≤ 4294967295) :
    Calls Try.prog 11 #[.int .u32 a] w fun e w' => e = .returned (.string (strOfNums (pre a 4))) ∧ Below w.heap.size w w' := by
  obtain ⟨i0, hi, hz0, hz1, hz2⟩ := info_parts info5
  go_enter Try.func11, Try.ntmps11
  go_wp2_with (at_make; refine wpList_make_own _ rfl _ _ 33 rfl w.heap.size 5 i0 (.int .u8 0) 1 Try.underlying33 hi hz0 hz1 .i64 .i64 15 15 rfl rfl rfl (by rw [hz2]; decide) (by decide) (Nat.le_refl _) ?_; intro w1 hown1 hgrow1)
  have b1 : Below w.heap.size w w1 := (Below.refl _ _).grown hgrow1 (Nat.le_refl _) (by intro k e; cases e)
  clear hgrow1
  go_loopw [3, 4] (fun b k wr => ∃ j : Nat, j ≤ 4 ∧ k = .int .i64 (3 - j) ∧ b = .slice (some ⟨w.heap.size, 0, none⟩) (pre a j).length 15 ∧ wr.ownsRow w.heap.size 5 1 (.slice (some ⟨w.heap.size, 0, none⟩) (pre a j).length 15) (pre a j).length ((pre a j).map (Value.int .u8)) ∧ Below w.heap.size w wr)
    (fun _ k _ => (intOf k + 1).toNat)
  case atStart => exact ⟨0, by omega, rfl, rfl, hown1, b1⟩
  case round =>
    obtain ⟨j, hj, rfl, rfl, hown, hb⟩ := hrel
    clear hown1 b1
    match j, hj with
    | 0, _ =>
      have hv : 0 ≤ a / 16777216 ∧ a / 16777216 ≤ 255 := by omega
      have hpl := pre_len a 0 (by omega)
      have hdl := dec_len (a / 16777216)
      go_wp2_with (first | (go_at_call 19; refine (appendDec_any wr w.heap.size w.heap.size _ _ (a / 16777216) hv.1 hv.2 hown (by omega)).mono ?_; rintro e w2 ⟨rfl, hown2, hb2⟩) | (at_builtin; refine wpList_append_fits _ rfl (.tmp 22) (.tmp 23) 33 rfl w.heap.size 5 i0 1 Try.underlying33 hi hz1 w.heap.size _ 15 _ rfl (hown2.alloc _) ⟨w2.heap.size, 0, none⟩ 1 1 [.int .u8 46] rfl rfl (cell_one_new _ _ _) Dec.lone (by omega) ?_; intro w3 hown3 hgrow3))
      have e : pre a (0 + 1) = pre a 0 ++ dec (a / 16777216) ++ [46] := rfl
      have R := step_below (hb.trans hb2) (Nat.le_of_lt (own_lt hown2).2) (Nat.le_refl _) hgrow3
      have hown4 : w3.ownsRow w.heap.size 5 1 (.slice (some ⟨w.heap.size, 0, none⟩) (pre a (0 + 1)).length 15) (pre a (0 + 1)).length ((pre a (0 + 1)).map (Value.int .u8)) := by
        rw [e]; simpa [Nat.add_assoc] using hown3
      go_roundw
      case rel => exact ⟨0 + 1, by omega, by go_num, by rw [e]; simp [Nat.add_assoc], hown4, R⟩
      case measure => simp [intOf]
    | 1, _ =>
      have hv : 0 ≤ a / 65536 % 256 ∧ a / 65536 % 256 ≤ 255 := by omega
      have hpl := pre_len a 1 (by omega)
      have hdl := dec_len (a / 65536 % 256)
      go_wp2_with (first | (go_at_call 19; refine (appendDec_any wr w.heap.size w.heap.size _ _ (a / 65536 % 256) hv.1 hv.2 hown (by omega)).mono ?_; rintro e w2 ⟨rfl, hown2, hb2⟩) | (at_builtin; refine wpList_append_fits _ rfl (.tmp 22) (.tmp 23) 33 rfl w.heap.size 5 i0 1 Try.underlying33 hi hz1 w.heap.size _ 15 _ rfl (hown2.alloc _) ⟨w2.heap.size, 0, none⟩ 1 1 [.int .u8 46] rfl rfl (cell_one_new _ _ _) Dec.lone (by omega) ?_; intro w3 hown3 hgrow3))
      have e : pre a (1 + 1) = pre a 1 ++ dec (a / 65536 % 256) ++ [46] := rfl
      have R := step_below (hb.trans hb2) (Nat.le_of_lt (own_lt hown2).2) (Nat.le_refl _) hgrow3
      have hown4 : w3.ownsRow w.heap.size 5 1 (.slice (some ⟨w.heap.size, 0, none⟩) (pre a (1 + 1)).length 15) (pre a (1 + 1)).length ((pre a (1 + 1)).map (Value.int .u8)) := by
        rw [e]; simpa [Nat.add_assoc] using hown3
      go_roundw
      case rel => exact ⟨1 + 1, by omega, by go_num, by rw [e]; simp [Nat.add_assoc], hown4, R⟩
      case measure => simp [intOf]
    | 2, _ =>
      have hv : 0 ≤ a / 256 % 256 ∧ a / 256 % 256 ≤ 255 := by omega
      have hpl := pre_len a 2 (by omega)
      have hdl := dec_len (a / 256 % 256)
      go_wp2_with (first | (go_at_call 19; refine (appendDec_any wr w.heap.size w.heap.size _ _ (a / 256 % 256) hv.1 hv.2 hown (by omega)).mono ?_; rintro e w2 ⟨rfl, hown2, hb2⟩) | (at_builtin; refine wpList_append_fits _ rfl (.tmp 22) (.tmp 23) 33 rfl w.heap.size 5 i0 1 Try.underlying33 hi hz1 w.heap.size _ 15 _ rfl (hown2.alloc _) ⟨w2.heap.size, 0, none⟩ 1 1 [.int .u8 46] rfl rfl (cell_one_new _ _ _) Dec.lone (by omega) ?_; intro w3 hown3 hgrow3))
      have e : pre a (2 + 1) = pre a 2 ++ dec (a / 256 % 256) ++ [46] := rfl
      have R := step_below (hb.trans hb2) (Nat.le_of_lt (own_lt hown2).2) (Nat.le_refl _) hgrow3
      have hown4 : w3.ownsRow w.heap.size 5 1 (.slice (some ⟨w.heap.size, 0, none⟩) (pre a (2 + 1)).length 15) (pre a (2 + 1)).length ((pre a (2 + 1)).map (Value.int .u8)) := by
        rw [e]; simpa [Nat.add_assoc] using hown3
      go_roundw
      case rel => exact ⟨2 + 1, by omega, by go_num, by rw [e]; simp [Nat.add_assoc], hown4, R⟩
      case measure => simp [intOf]
    | 3, _ =>
      have hv : 0 ≤ a % 256 ∧ a % 256 ≤ 255 := by omega
      have hpl := pre_len a 3 (by omega)
      have hdl := dec_len (a % 256)
      go_wp2_with (go_at_call 19; refine (appendDec_any wr w.heap.size w.heap.size _ _ (a % 256) hv.1 hv.2 hown (by omega)).mono ?_; rintro e w2 ⟨rfl, hown2, hb2⟩)
      have e : pre a (3 + 1) = pre a 3 ++ dec (a % 256) ++ [] := rfl
      have hown4 : w2.ownsRow w.heap.size 5 1 (.slice (some ⟨w.heap.size, 0, none⟩) (pre a (3 + 1)).length 15) (pre a (3 + 1)).length ((pre a (3 + 1)).map (Value.int .u8)) := by
        rw [e]; simpa using hown2
      go_roundw
      case rel => exact ⟨3 + 1, by omega, by go_num, by rw [e]; simp, hown4, hb.trans hb2⟩
      case measure => simp [intOf]
    | 4, _ =>
      have hcv := run_convert_bytes_arg (P := Try.prog) wr 33 5 Try.underlying33 Try.underlying5 w.heap.size 0 (pre a 4).length 15 (pre a 4) rfl (fun i hi => by
        rw [show (0 + i) = i by omega, hown.cellAt i (by omega)]
        simp [hi]) 9 Try.underlying9
      go_wp2
      go_ret
      exact ⟨rfl, hb⟩
end Go.Proofs.Qxb6601000a.Dotted
