import Derived.Test.Qxb6602928aNumber
namespace Go.Proofs.Qxb6602928a.Num
open Go.ChangeShapes Go.WideShapes Go.ChangeAt Go.RowKit
open Clone Decoder

/-- What number hands back. -/
def textOf (g cap p en : Nat) (ok : Bool) : Value := if ok then .slice (some ⟨g, p, none⟩) (en - p) (cap - p) else .slice none 0 0

theorem number_as (w0 w : World) (D g cap p : Nat) (ad : Option Addr) (d : Int) (zs : List Int) (hn : zs.length ≤ 1048576) (hcap : zs.length ≤ cap) (hcap2 : cap ≤ 1048576)
    (hS : St w0 D g cap ad d zs w p) (hp : p ≤ zs.length) (en : Nat) (ok : Bool) (hE : numP zs p = (en, ok)) (t : Value) (ht : t = textOf g cap p en ok) :
    Calls Try.prog 27 #[.pointer (some ⟨D, 0, none⟩)] w fun e w' => e = .returned (.tuple #[t, .bool ok]) ∧ St w0 D g cap ad d zs w' en := by
  refine (number_any w0 w D g cap p ad d zs hn hcap hcap2 hS hp).mono ?_
  rintro e w' ⟨v, rfl, hS', hv⟩
  rw [hE] at hS' hv
  refine ⟨?_, hS'⟩
  rcases hv with ⟨h1, rfl⟩ | ⟨h1, -, rfl⟩
  · subst ht
    have h1' : ok = false := h1
    subst h1'; rfl
  · subst ht
    have h1' : ok = true := h1
    subst h1'; rfl

set_option maxHeartbeats 800000 in
theorem zz_as (w : World) (g cap p : Nat) (ad : Option Addr) (d : Int) (zs : List Int) (hn : zs.length ≤ 1048576) (hcap : zs.length ≤ cap) (hcap2 : cap ≤ 1048576)
    (hB : Buf w ad g zs) (hg : 0 < zs.length → g < w.heap.size) (hp : p ≤ zs.length) (en : Nat) (ok : Bool) (hE : Hid (numP zs p = (en, ok))) (t : Value) (ht : Hid (t = textOf g cap p en ok)) :
    Calls Try.prog 13 #[.slice ad zs.length cap, .int .i64 p, .int .i64 d] w fun e w' => e = .returned (.tuple #[t, .bool ok, .int .i64 en, .int .i64 d]) ∧ Below w.heap.size w w' := by
  have hb : Below w.heap.size w (w.alloc (.cells #[.slice ad zs.length cap, .int .i64 p, .int .i64 d] 44)) := (Below.refl _ _).alloc (Nat.le_refl _) _
  have hS : St w w.heap.size g cap ad d zs (w.alloc (.cells #[.slice ad zs.length cap, .int .i64 p, .int .i64 d] 44)) p := ⟨heap_alloc_new w _, hb, hB.below hb hg, hg⟩
  have HS : Hid (St w w.heap.size g cap ad d zs (w.alloc (.cells #[.slice ad zs.length cap, .int .i64 p, .int .i64 d] 44)) p) := hS
  clear hS hb hB
  go_enter Try.func13, Try.ntmps13
  go_wp2_with (go_at_call 27; refine (number_as w _ w.heap.size g cap p ad d zs hn hcap hcap2 HS.out hp en ok hE.out t ht.out).mono ?_; rintro e w2 ⟨rfl, hS2⟩; have d1 := hS2.1.pos; have d2 := hS2.1.depth)
  go_quiet (fail)
  go_wp2
  exact bodyPost_ret (v := .tuple #[t, .bool ok, .int .i64 en, .int .i64 d]) (by simp [results, Try.results13, go_sem]) rfl ⟨rfl, below_drewN hS2.2.1 _⟩

set_option maxHeartbeats 800000 in
theorem same_any (w : World) (g off m c c' : Nat) (zs : List Int) (hm : m ≤ 1048576)
    (hc : ∀ i, i < m → w.cell? ⟨g, off + i, none⟩ = some (.int .u8 (zs.getD i 0))) :
    Calls Try.prog 14 #[.slice (some ⟨g, off, none⟩) m c, .slice (some ⟨g, off, none⟩) m c'] w fun e w' => e = .returned (.bool true) ∧ ∃ n, w' = w.drewN n := by
  have HC : Hid (∀ i, i < m → w.cell? ⟨g, off + i, none⟩ = some (.int .u8 (zs.getD i 0))) := hc
  clear hc
  go_enter Try.func14, Try.ntmps14
  go_wp2
  go_loopw [5] (fun i wr => ∃ k : Nat, k ≤ m ∧ i = .int .i64 k ∧ ∃ n, wr = w.drewN n) (fun i _ => m - (intOf i).toNat)
  case atStart => exact ⟨0, by omega, rfl, 0, rfl⟩
  case round =>
    obtain ⟨k, hk, rfl, n, rfl⟩ := hrel
    by_cases hlt : k < m
    · have cx := HC.out k hlt
      obtain ⟨x, hx⟩ : ∃ x : Int, Hid (x = zs.getD k 0) := ⟨_, rfl⟩
      rw [← hx.out] at cx
      have q1 : (k : Int) < (m : Int) := by omega
      go_wp2
      go_quiet (fail)
      go_wp2
      go_roundw
      case rel => exact ⟨k + 1, by omega, by go_num, _, rfl⟩
      case measure => simp [intOf]; omega
    · go_wp2
      go_ret
      exact ⟨rfl, n, rfl⟩

theorem exp_bounds (zs : List Int) (q : Nat) (hq : q ≤ zs.length) : q ≤ (expP zs q).1 ∧ (expP zs q).1 ≤ zs.length := by
  cases h : (atB zs q 101 || atB zs q 69) with
  | false => rw [exp_no zs q h]; exact ⟨Nat.le_refl _, hq⟩
  | true =>
    have hl := exp_lt zs q h
    rw [exp_yes zs q _ h rfl]
    by_cases hs : (atB zs (q + 1) 43 || atB zs (q + 1) 45) = true
    · have hl2 : q + 1 < zs.length := by
        rcases Bool.or_eq_true_iff.1 hs with k | k
        · exact (at_in k).1
        · exact (at_in k).1
      simp only [hs, if_true]
      have := dg_le zs (q + 1 + 1) (by omega)
      omega
    · simp only [hs]
      have := dg_le zs (q + 1) (by omega)
      simp
      omega

theorem frac_bounds (zs : List Int) (q : Nat) (hq : q ≤ zs.length) : q ≤ (fracP zs q).1 ∧ (fracP zs q).1 ≤ zs.length := by
  cases h : atB zs q 46 with
  | false => rw [frac_no zs q h]; exact exp_bounds zs q hq
  | true =>
    have hl := (at_in h).1
    have hd := dg_le zs (q + 1) (by omega)
    by_cases hlt : q + 1 < dg zs (q + 1)
    · rw [frac_yes zs q h hlt]
      have := exp_bounds zs (dg zs (q + 1)) hd.2
      omega
    · rw [frac_bad zs q h hlt]
      exact ⟨by show q ≤ dg zs (q + 1); omega, hd.2⟩

theorem int_bounds (zs : List Int) (q : Nat) (hq : q ≤ zs.length) : q ≤ (intP zs q).1 ∧ (intP zs q).1 ≤ zs.length ∧ ((intP zs q).2 = true → q < (intP zs q).1) := by
  cases h : atB zs q 48 with
  | true =>
    have hl := (at_in h).1
    rw [int_zero zs q h]
    have := frac_bounds zs (q + 1) (by omega)
    exact ⟨by omega, this.2, fun _ => by omega⟩
  | false =>
    by_cases hb : q < zs.length ∧ 49 ≤ nth zs q ∧ nth zs q ≤ 57
    · have hi := int_digit zs q h hb.1 hb.2.1 hb.2.2
      rw [hi.1]
      have := frac_bounds zs (dg zs q) (dg_le zs q hq).2
      exact ⟨by omega, this.2, fun _ => by omega⟩
    · rw [int_bad zs q h hb]
      exact ⟨Nat.le_refl _, hq, fun k => by cases k⟩

theorem num_bounds (zs : List Int) (p : Nat) (hp : p ≤ zs.length) : p ≤ (numP zs p).1 ∧ (numP zs p).1 ≤ zs.length ∧ ((numP zs p).2 = true → p < (numP zs p).1) := by
  unfold numP
  by_cases h : atB zs p 45 = true
  · have hl := (at_in h).1
    rw [if_pos h]
    have hb := int_bounds zs (p + 1) (by omega)
    exact ⟨by omega, hb.2.1, fun _ => by omega⟩
  · rw [if_neg h]
    exact int_bounds zs p hp
end Go.Proofs.Qxb6602928a.Num
