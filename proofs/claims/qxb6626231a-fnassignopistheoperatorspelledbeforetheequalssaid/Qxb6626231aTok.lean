import Derived.Test.Qxb6626231aRows
import Derived.WalkKit
import Derived.ProofKit
namespace Go.Proofs.Qxb6626231a.Tok
open Go.ChangeShapes Go.WideShapes Go.ChangeAt Go.RowKit

/-! 'Token.AssignOp' (function 5): in the run 18 .. 28 the operator eleven places ahead and true; elsewhere 0 and false. -/

theorem op_in (a : Int) (h1 : 18 ≤ a) (h2 : a ≤ 28) (w : World) :
    Calls Try.prog 5 #[.int .u8 a] w fun e w' => e = .returned (.tuple #[.int .u8 (a - 11), .bool true]) ∧ w' = w := by
  have e1 : a - 18 + 7 = a - 11 := by omega
  go_enter Try.func5, Try.ntmps5
  go_wp2
  go_ret2
  exact ⟨rfl, rfl⟩

theorem op_below (a : Int) (h0 : 0 ≤ a) (h1 : a < 18) (w : World) :
    Calls Try.prog 5 #[.int .u8 a] w fun e w' => e = .returned (.tuple #[.int .u8 0, .bool false]) ∧ w' = w := by
  go_enter Try.func5, Try.ntmps5
  go_wp2
  go_ret2
  exact ⟨rfl, rfl⟩

theorem op_above (a : Int) (h0 : 28 < a) (h1 : a ≤ 255) (w : World) :
    Calls Try.prog 5 #[.int .u8 a] w fun e w' => e = .returned (.tuple #[.int .u8 0, .bool false]) ∧ w' = w := by
  go_enter Try.func5, Try.ntmps5
  go_wp2
  go_ret2
  exact ⟨rfl, rfl⟩
end Go.Proofs.Qxb6626231a.Tok
