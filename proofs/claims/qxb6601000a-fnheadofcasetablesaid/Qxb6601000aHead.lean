import Derived.Test.Qxb6601000aRows
import Derived.WalkKit
import Derived.ProofKit
import Derived.OpenShut
namespace Go.Proofs.Qxb6601000a.Head
open Go.ChangeShapes Go.WideShapes Go.ChangeAt Go.RowKit
theorem ret_int {k : IntKind} {a b : Int} (h : a = b) : Ending.returned (.int k a) = .returned (.int k b) := by rw [h]
theorem or_one_all : ∀ n : Fin 126, bits BinOp.or IntKind.u8 (2 * ((n.val : Nat) : Int)) 1 = 2 * ((n.val : Nat) : Int) + 1 := by decide +kernel
theorem or_nil_all : ∀ n : Fin 126, bits BinOp.or IntKind.u8 (2 * ((n.val : Nat) : Int)) 0 = 2 * ((n.val : Nat) : Int) := by decide +kernel
theorem or_one (n : Nat) (h : n ≤ 125) : bits BinOp.or IntKind.u8 (2 * (n : Int)) 1 = 2 * (n : Int) + 1 := or_one_all ⟨n, by omega⟩
theorem or_nil (n : Nat) (h : n ≤ 125) : bits BinOp.or IntKind.u8 (2 * (n : Int)) 0 = 2 * (n : Int) := or_nil_all ⟨n, by omega⟩

set_option maxHeartbeats 400000 in
theorem name_short (b h : Int) (t : ByteArray) (w2 : t.size ≤ 125) (hh : Hid (h = 2 * (t.size : Int) + 1)) (w : World) :
    Calls Try.prog 14 #[.int .u8 1, .int .u64 b, .string t] w fun e w' => e = .returned (.int .u8 h) ∧ Grown w w' := by
  go_enter Try.func14, Try.ntmps14
  go_wp2
  go_ret
  exact ⟨ret_int ((or_one t.size w2).trans hh.out.symm), by repeat (first | exact Grown.refl _ | apply Grown.drew | apply Grown.alloc)⟩
set_option maxHeartbeats 400000 in
theorem text_short (b h : Int) (t : ByteArray) (w2 : t.size ≤ 125) (hh : Hid (h = 2 * (t.size : Int))) (w : World) :
    Calls Try.prog 14 #[.int .u8 0, .int .u64 b, .string t] w fun e w' => e = .returned (.int .u8 h) ∧ Grown w w' := by
  go_enter Try.func14, Try.ntmps14
  go_wp2
  go_ret
  exact ⟨ret_int ((or_nil t.size w2).trans hh.out.symm), by repeat (first | exact Grown.refl _ | apply Grown.drew | apply Grown.alloc)⟩

end Go.Proofs.Qxb6601000a.Head
