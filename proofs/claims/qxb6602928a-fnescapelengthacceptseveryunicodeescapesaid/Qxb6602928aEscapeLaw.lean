import Derived.Test.Qxb6602928aEscape
import Derived.Laws.Bits128
namespace Go.Proofs.Qxb6602928a.EscapeLaw
open Go.ChangeShapes Go.WideShapes Go.ChangeAt Go.RowKit
open Clone Escape

theorem and15 (n : Int) : bits .and .i64 n 15 = n % 16 := by
  have h15 : (BitVec.ofInt 64 15).toNat = 2 ^ 4 - 1 := by decide
  have key : (BitVec.ofInt 64 n &&& BitVec.ofInt 64 15).toNat = (n % ((2 ^ 64 : Nat) : Int)).toNat % 2 ^ 4 := by
    rw [BitVec.toNat_and, BitVec.toNat_ofInt, h15, Nat.and_two_pow_sub_one_eq_mod]
  show IntKind.i64.wrap ((BitVec.ofInt 64 n &&& BitVec.ofInt 64 15).toNat : Nat) = n % 16
  rw [key, IntKind.wrap_i64]
  omega

theorem pick_hex {cs : List Int} {k : Nat} (hl : k < cs.length) (h : ∀ c ∈ cs, isHex c) : isHex (cs.getD k 0) := by
  have : cs.getD k 0 = cs[k] := by simp [hl]
  rw [this]; exact h _ (List.getElem_mem hl)

/-- What is known of the buffer: the letter u, then j digits. -/
def Digs (wr : World) (g cap j : Nat) (cs : List Int) : Prop :=
  cs.length = j ∧ (∀ c ∈ cs, isHex c) ∧ wr.ownsRow g 5 1 (.slice (some ⟨g, 0, none⟩) (j + 1) cap) (j + 1) ((117 :: cs).map (Value.int .u8))

theorem digs_step {wr w1 : World} {g cap j : Nat} {cs : List Int} {c : Int} (h : Digs wr g cap j cs) (hc : isHex c)
    (hown : w1.ownsRow g 5 1 (.slice (some ⟨g, 0, none⟩) (j + 1 + 1) cap) (j + 1 + 1) ((117 :: cs).map (Value.int .u8) ++ [.int .u8 c])) : Digs w1 g cap (j + 1) (cs ++ [c]) := by
  refine ⟨by simp [h.1], ?_, by simpa using hown⟩
  intro d hd
  rcases List.mem_append.1 hd with h' | h'
  · exact h.2.1 d h'
  · simp at h'; subst h'; exact hc

/-- The buffer behind the tail's first k bytes. -/
def Full (wr : World) (g cap k : Nat) (cs zs : List Int) : Prop :=
  cs.length = 4 ∧ (∀ c ∈ cs, isHex c) ∧ wr.ownsRow g 5 1 (.slice (some ⟨g, 0, none⟩) (5 + k) cap) (5 + k) ((117 :: (cs ++ zs.take k)).map (Value.int .u8))

theorem full_start {wr : World} {g cap : Nat} {cs : List Int} (zs : List Int) (h : Digs wr g cap 4 cs) : Full wr g cap 0 cs zs := ⟨h.1, h.2.1, by simpa using h.2.2⟩

theorem full_step {wr w1 : World} {g cap k : Nat} {cs zs : List Int} (h : Full wr g cap k cs zs) (hk : k < zs.length)
    (hown : w1.ownsRow g 5 1 (.slice (some ⟨g, 0, none⟩) (5 + k + 1) cap) (5 + k + 1) ((117 :: (cs ++ zs.take k)).map (Value.int .u8) ++ [.int .u8 (zs.getD k 0)])) : Full w1 g cap (k + 1) cs zs := by
  refine ⟨h.1, h.2.1, ?_⟩
  have e : zs.take (k + 1) = zs.take k ++ [zs.getD k 0] := by rw [List.take_succ_eq_append_getElem hk]; simp [hk]
  rw [e]
  simpa [Nat.add_assoc] using hown

theorem full_u {wr : World} {g cap k : Nat} {cs zs : List Int} (h : Full wr g cap k cs zs) : wr.cell? ⟨g, 0, none⟩ = some (.int .u8 117) := by
  have := own_cell h.2.2 0 (by omega)
  simpa using this

theorem full_x {wr : World} {g cap k : Nat} {cs zs : List Int} (h : Full wr g cap k cs zs) : ∀ j, j < 4 → ∃ c, wr.cell? ⟨g, 1 + j, none⟩ = some (.int .u8 c) ∧ isHex c := by
  intro j hj
  have h1 := own_cell h.2.2 (1 + j) (by omega)
  refine ⟨_, h1, ?_⟩
  have e : (117 :: (cs ++ zs.take k)).getD (1 + j) 0 = cs.getD j 0 := by
    have hl : j < cs.length := by rw [h.1]; exact hj
    rw [Nat.add_comm 1 j]
    simp [hl, List.getElem?_append_left hl]
  rw [e]
  exact pick_hex (by rw [h.1]; exact hj) h.2.1

set_option maxHeartbeats 1600000 in
theorem walk_nil (a0 : Int) (a1 : Bool) (w : World) (b0 : 0 ≤ a0) (b1 : a0 ≤ 65535) :
    Calls Try.prog 8 #[.int .u16 a0, .bool a1, .slice none 0 0] w fun e w' => e = .returned (.bool true) ∧ Below w.heap.size w w' := by
  obtain ⟨i0, hi, hz0, hz1, hz2⟩ := info_parts info5
  go_enter Try.func8, Try.ntmps8
  go_wp2_with (first | (go_at_call 11; refine (clone_nil _ _ _).mono ?_; rintro e w1 ⟨rfl, rfl⟩) | (at_make; refine wpList_make_own _ rfl _ _ 22 rfl w.heap.size 5 i0 (.int .u8 0) 1 Try.underlying22 hi hz0 hz1 .i64 .i64 _ 5 rfl rfl rfl (by rw [hz2]; omega) (by unfold maxLen; omega) (Nat.le_refl _) ?_; intro w2 hown2 hgrow2) | (at_builtin; refine wpList_append_fits _ rfl (.tmp 25) (.tmp 26) 22 rfl w.heap.size 5 i0 1 Try.underlying22 hi hz1 w.heap.size 0 5 [] rfl (hown2.alloc _) ⟨w2.heap.size, 0, none⟩ 1 1 [.int .u8 117] rfl rfl (cell_one_new _ _ _) one_u8 (by omega) ?_; intro w3 hown3 hgrow3) | go_in)
  have bb2 : Below w.heap.size w w2 := (Below.refl _ _).grown hgrow2 (Nat.le_refl _) (by intro k e; cases e)
  have bb3 : Below w.heap.size w w3 := step_below bb2 (Nat.le_of_lt (own_lt hown2).2) (Nat.le_refl _) hgrow3
  have hD3 : Digs w3 w.heap.size 5 0 [] := ⟨rfl, by simp, by simpa using hown3⟩
  clear hown2 hgrow2 hown3 hgrow3 bb2
  go_loopw [7, 8] (fun b s wr => ∃ j : Nat, ∃ cs : List Int, j ≤ 4 ∧ s = .int .i64 (12 - 4 * j) ∧ b = .slice (some ⟨w.heap.size, 0, none⟩) (j + 1) 5 ∧ Digs wr w.heap.size 5 j cs ∧ Below w.heap.size w wr)
    (fun _ s _ => (intOf s + 4).toNat)
  case atStart => exact ⟨0, [], by omega, rfl, rfl, hD3, bb3⟩
  case round =>
    obtain ⟨j, cs, hj, rfl, rfl, hD, hb⟩ := hrel
    clear hD3 bb3
    match j, hj with
    | 0, _ =>
      have ha := and15 (a0 / 4096)
      go_wp2_with (first | (go_at_call 22; refine (hex_any (a0 / 4096 % 16) a1 (by omega) (by omega) _).mono ?_; rintro e w4 ⟨c, rfl, hx, rfl⟩) | (at_builtin; refine wpList_append_fits _ rfl (.tmp 32) (.tmp 41) 22 rfl w.heap.size 5 i0 1 Try.underlying22 hi hz1 w.heap.size (0 + 1) 5 _ rfl (hD.2.2.alloc _) ⟨_, 0, none⟩ 1 1 [.int .u8 c] rfl rfl (cell_one_new _ _ _) one_u8 (by omega) ?_; intro w5 hown5 hgrow5))
      have R := digs_step hD hx hown5
      have B5 := step_below hb (Nat.le_of_lt (own_lt hD.2.2).2) (Nat.le_refl _) hgrow5
      go_roundw
      case rel => exact ⟨0 + 1, cs ++ [c], by omega, by go_num, rfl, R, B5⟩
      case measure => simp [intOf]
    | 1, _ =>
      have ha := and15 (a0 / 256)
      go_wp2_with (first | (go_at_call 22; refine (hex_any (a0 / 256 % 16) a1 (by omega) (by omega) _).mono ?_; rintro e w4 ⟨c, rfl, hx, rfl⟩) | (at_builtin; refine wpList_append_fits _ rfl (.tmp 32) (.tmp 41) 22 rfl w.heap.size 5 i0 1 Try.underlying22 hi hz1 w.heap.size (1 + 1) 5 _ rfl (hD.2.2.alloc _) ⟨_, 0, none⟩ 1 1 [.int .u8 c] rfl rfl (cell_one_new _ _ _) one_u8 (by omega) ?_; intro w5 hown5 hgrow5))
      have R := digs_step hD hx hown5
      have B5 := step_below hb (Nat.le_of_lt (own_lt hD.2.2).2) (Nat.le_refl _) hgrow5
      go_roundw
      case rel => exact ⟨1 + 1, cs ++ [c], by omega, by go_num, rfl, R, B5⟩
      case measure => simp [intOf]
    | 2, _ =>
      have ha := and15 (a0 / 16)
      go_wp2_with (first | (go_at_call 22; refine (hex_any (a0 / 16 % 16) a1 (by omega) (by omega) _).mono ?_; rintro e w4 ⟨c, rfl, hx, rfl⟩) | (at_builtin; refine wpList_append_fits _ rfl (.tmp 32) (.tmp 41) 22 rfl w.heap.size 5 i0 1 Try.underlying22 hi hz1 w.heap.size (2 + 1) 5 _ rfl (hD.2.2.alloc _) ⟨_, 0, none⟩ 1 1 [.int .u8 c] rfl rfl (cell_one_new _ _ _) one_u8 (by omega) ?_; intro w5 hown5 hgrow5))
      have R := digs_step hD hx hown5
      have B5 := step_below hb (Nat.le_of_lt (own_lt hD.2.2).2) (Nat.le_refl _) hgrow5
      go_roundw
      case rel => exact ⟨2 + 1, cs ++ [c], by omega, by go_num, rfl, R, B5⟩
      case measure => simp [intOf]
    | 3, _ =>
      have ha := and15 (a0)
      go_wp2_with (first | (go_at_call 22; refine (hex_any (a0 % 16) a1 (by omega) (by omega) _).mono ?_; rintro e w4 ⟨c, rfl, hx, rfl⟩) | (at_builtin; refine wpList_append_fits _ rfl (.tmp 32) (.tmp 41) 22 rfl w.heap.size 5 i0 1 Try.underlying22 hi hz1 w.heap.size (3 + 1) 5 _ rfl (hD.2.2.alloc _) ⟨_, 0, none⟩ 1 1 [.int .u8 c] rfl rfl (cell_one_new _ _ _) one_u8 (by omega) ?_; intro w5 hown5 hgrow5))
      have R := digs_step hD hx hown5
      have B5 := step_below hb (Nat.le_of_lt (own_lt hD.2.2).2) (Nat.le_refl _) hgrow5
      go_roundw
      case rel => exact ⟨3 + 1, cs ++ [c], by omega, by go_num, rfl, R, B5⟩
      case measure => simp [intOf]
    | 4, _ =>
      have hF := full_start [] hD
      clear hD
      go_wp2
      refine wp_loop_rounds 1 ?_
      rw [rounds_succ]
      have hu := full_u hF
      have hx := full_x hF
      have HX : Hid (∀ j, j < 4 → ∃ c, wr.cell? ⟨w.heap.size, 1 + j, none⟩ = some (.int .u8 c) ∧ isHex c) := hx
      clear hx hF
      go_wp2_with (go_at_call 23; refine (esc_long w.heap.size _ _ (by omega) (by omega) (by omega) _ hu HX.out).mono ?_; rintro e w6 ⟨rfl, rfl⟩)
      refine wp_loop_rounds 5 ?_
      rw [rounds_succ]
      go_wp2_with (go_at_call 23; refine (esc_short w.heap.size _ _ (by omega) (by omega) _ hu).mono ?_; rintro e w6 ⟨rfl, rfl⟩)
      rw [rounds_succ]
      go_wp2_with (go_at_call 23; refine (esc_short w.heap.size _ _ (by omega) (by omega) _ hu).mono ?_; rintro e w6 ⟨rfl, rfl⟩)
      rw [rounds_succ]
      go_wp2_with (go_at_call 23; refine (esc_short w.heap.size _ _ (by omega) (by omega) _ hu).mono ?_; rintro e w6 ⟨rfl, rfl⟩)
      rw [rounds_succ]
      go_wp2_with (go_at_call 23; refine (esc_short w.heap.size _ _ (by omega) (by omega) _ hu).mono ?_; rintro e w6 ⟨rfl, rfl⟩)
      rw [rounds_succ]
      go_wp2
      go_ret
      exact ⟨rfl, hb⟩

set_option maxHeartbeats 1600000 in
theorem walk_some (a0 : Int) (a1 : Bool) (x : Addr) (len2 cap2 : Nat) (z2 : List Int) (w : World) (b0 : 0 ≤ a0) (b1 : a0 ≤ 65535) (hlen : len2 ≤ 1048576) (hl : len2 ≤ cap2) (hz : z2.length = cap2) (hc : ∀ i, i < z2.length → w.cell? (x.add i) = some (.int .u8 (z2.getD i 0))) :
    Calls Try.prog 8 #[.int .u16 a0, .bool a1, .slice (some x) len2 cap2] w fun e w' => e = .returned (.bool true) ∧ Below w.heap.size w w' := by
  obtain ⟨i0, hi, hz0, hz1, hz2⟩ := info_parts info5
  have q1 : ¬ (1048576 : Int) < (len2 : Int) := by omega
  go_enter Try.func8, Try.ntmps8
  go_wp2_with (first | (go_at_call 11; refine (clone_some w x len2 cap2 z2 (by omega) hl hz hc).mono ?_; rintro e w1 ⟨rfl, hown1, hb1⟩) | (at_make; refine wpList_make_own _ rfl _ _ 22 rfl w1.heap.size 5 i0 (.int .u8 0) 1 Try.underlying22 hi hz0 hz1 .i64 .i64 _ (5 + len2) rfl rfl (by simp) (by rw [hz2]; omega) (by unfold maxLen; omega) (Nat.le_refl _) ?_; intro w2 hown2 hgrow2) | (at_builtin; refine wpList_append_fits _ rfl (.tmp 25) (.tmp 26) 22 rfl w1.heap.size 5 i0 1 Try.underlying22 hi hz1 w1.heap.size 0 (5 + len2) [] rfl (hown2.alloc _) ⟨w2.heap.size, 0, none⟩ 1 1 [.int .u8 117] rfl rfl (cell_one_new _ _ _) one_u8 (by omega) ?_; intro w3 hown3 hgrow3) | go_in)
  have bb2 : Below w1.heap.size w1 w2 := (Below.refl _ _).grown hgrow2 (Nat.le_refl _) (by intro k e; cases e)
  have bb3 : Below w1.heap.size w1 w3 := step_below bb2 (Nat.le_of_lt (own_lt hown2).2) (Nat.le_refl _) hgrow3
  have hD3 : Digs w3 w1.heap.size (5 + len2) 0 [] := ⟨rfl, by simp, by simpa using hown3⟩
  have hct : ∀ j, j < len2 → w1.cell? ⟨w.heap.size, j, none⟩ = some (.int .u8 ((z2.take len2).getD j 0)) := fun j hj => own_cell hown1 j hj
  have hgt : w.heap.size < w1.heap.size := (own_lt hown1).2
  have hzl : (z2.take len2).length = len2 := by simp; omega
  obtain ⟨zs, hzs⟩ : ∃ zs, zs = z2.take len2 := ⟨_, rfl⟩
  rw [← hzs] at hct hzl
  clear hzs hown1 hc hl hz
  clear hown2 hgrow2 hown3 hgrow3 bb2
  go_loopw [7, 8] (fun b s wr => ∃ j : Nat, ∃ cs : List Int, j ≤ 4 ∧ s = .int .i64 (12 - 4 * j) ∧ b = .slice (some ⟨w1.heap.size, 0, none⟩) (j + 1) (5 + len2) ∧ Digs wr w1.heap.size (5 + len2) j cs ∧ Below w1.heap.size w1 wr)
    (fun _ s _ => (intOf s + 4).toNat)
  case atStart => exact ⟨0, [], by omega, rfl, rfl, hD3, bb3⟩
  case round =>
    obtain ⟨j, cs, hj, rfl, rfl, hD, hb⟩ := hrel
    clear hD3 bb3
    match j, hj with
    | 0, _ =>
      have ha := and15 (a0 / 4096)
      go_wp2_with (first | (go_at_call 22; refine (hex_any (a0 / 4096 % 16) a1 (by omega) (by omega) _).mono ?_; rintro e w4 ⟨c, rfl, hx, rfl⟩) | (at_builtin; refine wpList_append_fits _ rfl (.tmp 32) (.tmp 41) 22 rfl w1.heap.size 5 i0 1 Try.underlying22 hi hz1 w1.heap.size (0 + 1) (5 + len2) _ rfl (hD.2.2.alloc _) ⟨_, 0, none⟩ 1 1 [.int .u8 c] rfl rfl (cell_one_new _ _ _) one_u8 (by omega) ?_; intro w5 hown5 hgrow5))
      have R := digs_step hD hx hown5
      have B5 := step_below hb (Nat.le_of_lt (own_lt hD.2.2).2) (Nat.le_refl _) hgrow5
      go_roundw
      case rel => exact ⟨0 + 1, cs ++ [c], by omega, by go_num, rfl, R, B5⟩
      case measure => simp [intOf]
    | 1, _ =>
      have ha := and15 (a0 / 256)
      go_wp2_with (first | (go_at_call 22; refine (hex_any (a0 / 256 % 16) a1 (by omega) (by omega) _).mono ?_; rintro e w4 ⟨c, rfl, hx, rfl⟩) | (at_builtin; refine wpList_append_fits _ rfl (.tmp 32) (.tmp 41) 22 rfl w1.heap.size 5 i0 1 Try.underlying22 hi hz1 w1.heap.size (1 + 1) (5 + len2) _ rfl (hD.2.2.alloc _) ⟨_, 0, none⟩ 1 1 [.int .u8 c] rfl rfl (cell_one_new _ _ _) one_u8 (by omega) ?_; intro w5 hown5 hgrow5))
      have R := digs_step hD hx hown5
      have B5 := step_below hb (Nat.le_of_lt (own_lt hD.2.2).2) (Nat.le_refl _) hgrow5
      go_roundw
      case rel => exact ⟨1 + 1, cs ++ [c], by omega, by go_num, rfl, R, B5⟩
      case measure => simp [intOf]
    | 2, _ =>
      have ha := and15 (a0 / 16)
      go_wp2_with (first | (go_at_call 22; refine (hex_any (a0 / 16 % 16) a1 (by omega) (by omega) _).mono ?_; rintro e w4 ⟨c, rfl, hx, rfl⟩) | (at_builtin; refine wpList_append_fits _ rfl (.tmp 32) (.tmp 41) 22 rfl w1.heap.size 5 i0 1 Try.underlying22 hi hz1 w1.heap.size (2 + 1) (5 + len2) _ rfl (hD.2.2.alloc _) ⟨_, 0, none⟩ 1 1 [.int .u8 c] rfl rfl (cell_one_new _ _ _) one_u8 (by omega) ?_; intro w5 hown5 hgrow5))
      have R := digs_step hD hx hown5
      have B5 := step_below hb (Nat.le_of_lt (own_lt hD.2.2).2) (Nat.le_refl _) hgrow5
      go_roundw
      case rel => exact ⟨2 + 1, cs ++ [c], by omega, by go_num, rfl, R, B5⟩
      case measure => simp [intOf]
    | 3, _ =>
      have ha := and15 (a0)
      go_wp2_with (first | (go_at_call 22; refine (hex_any (a0 % 16) a1 (by omega) (by omega) _).mono ?_; rintro e w4 ⟨c, rfl, hx, rfl⟩) | (at_builtin; refine wpList_append_fits _ rfl (.tmp 32) (.tmp 41) 22 rfl w1.heap.size 5 i0 1 Try.underlying22 hi hz1 w1.heap.size (3 + 1) (5 + len2) _ rfl (hD.2.2.alloc _) ⟨_, 0, none⟩ 1 1 [.int .u8 c] rfl rfl (cell_one_new _ _ _) one_u8 (by omega) ?_; intro w5 hown5 hgrow5))
      have R := digs_step hD hx hown5
      have B5 := step_below hb (Nat.le_of_lt (own_lt hD.2.2).2) (Nat.le_refl _) hgrow5
      go_roundw
      case rel => exact ⟨3 + 1, cs ++ [c], by omega, by go_num, rfl, R, B5⟩
      case measure => simp [intOf]
    | 4, _ =>
      have hF := full_start zs hD
      clear hD
      go_wp2
      go_loopw [7, 9] (fun b s wx => ∃ k : Nat, k ≤ len2 ∧ s = .int .i64 k ∧ b = .slice (some ⟨w1.heap.size, 0, none⟩) (5 + k) (5 + len2) ∧ Full wx w1.heap.size (5 + len2) k cs zs ∧ Below w1.heap.size w1 wx)
        (fun _ s _ => len2 - (intOf s).toNat)
      case atStart => exact ⟨0, by omega, rfl, rfl, hF, hb⟩
      case round =>
        obtain ⟨k, hk, rfl, rfl, hG, hbx⟩ := hrel
        clear hF
        by_cases hlt : k < len2
        · obtain ⟨c, hcv⟩ : ∃ c : Int, Hid (c = zs.getD k 0) := ⟨_, rfl⟩
          have hcx : wr.cell? ⟨w.heap.size, k, none⟩ = some (.int .u8 c) := by rw [hcv.out]; exact (hbx.cell (p := ⟨w.heap.size, k, none⟩) hgt).trans (hct k hlt)
          have HC : Hid (∀ j, j < len2 → w1.cell? ⟨w.heap.size, j, none⟩ = some (.int .u8 (zs.getD j 0))) := hct
          clear hct
          go_wp2_with (at_builtin; refine wpList_append_fits _ rfl (.tmp 49) (.tmp 54) 22 rfl w1.heap.size 5 i0 1 Try.underlying22 hi hz1 w1.heap.size (5 + k) (5 + len2) _ rfl (hG.2.2.alloc _) ⟨_, 0, none⟩ 1 1 [.int .u8 c] rfl rfl (cell_one_new _ _ _) one_u8 (by omega) ?_; intro w5 hown5 hgrow5)
          have R := full_step hG (by omega) (by rw [← hcv.out]; exact hown5)
          have B5 := step_below hbx (Nat.le_of_lt (own_lt hG.2.2).2) (Nat.le_refl _) hgrow5
          go_roundw
          case rel => (repeat apply Exists.intro); exact ⟨⟨k + 1, by omega, by go_num, by rw [Nat.add_assoc], R, B5⟩, rfl⟩
          case measure => simp [intOf]; omega
        · obtain rfl : k = len2 := by omega
          have hF := hG
          have hb := hbx
          clear hG hbx
          have hu := full_u hF
          have hx := full_x hF
          have HX : Hid (∀ j, j < 4 → ∃ c, wr.cell? ⟨w1.heap.size, 1 + j, none⟩ = some (.int .u8 c) ∧ isHex c) := hx
          clear hx hF
          go_wp2_with (go_at_call 23; refine (esc_long w1.heap.size _ _ (by omega) (by omega) (by omega) _ hu HX.out).mono ?_; rintro e w6 ⟨rfl, rfl⟩)
          refine wp_loop_rounds 5 ?_
          rw [rounds_succ]
          go_wp2_with (go_at_call 23; refine (esc_short w1.heap.size _ _ (by omega) (by omega) _ hu).mono ?_; rintro e w6 ⟨rfl, rfl⟩)
          rw [rounds_succ]
          go_wp2_with (go_at_call 23; refine (esc_short w1.heap.size _ _ (by omega) (by omega) _ hu).mono ?_; rintro e w6 ⟨rfl, rfl⟩)
          rw [rounds_succ]
          go_wp2_with (go_at_call 23; refine (esc_short w1.heap.size _ _ (by omega) (by omega) _ hu).mono ?_; rintro e w6 ⟨rfl, rfl⟩)
          rw [rounds_succ]
          go_wp2_with (go_at_call 23; refine (esc_short w1.heap.size _ _ (by omega) (by omega) _ hu).mono ?_; rintro e w6 ⟨rfl, rfl⟩)
          rw [rounds_succ]
          go_wp2
          go_ret
          exact ⟨rfl, hb1.trans (hb.mono (Nat.le_of_lt hgt))⟩

end Go.Proofs.Qxb6602928a.EscapeLaw
