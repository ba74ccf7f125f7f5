import Derived.Test.Qxb6626231aSpell
import Derived.Deep.RegionWith
namespace Go.Proofs.Qxb6626231a.Law2
open Go.ChangeShapes Go.WideShapes Go.ChangeAt Go.RowKit

/-! The law (function 3), one walk a spelled token, three for the unspelled. -/

theorem at7 (w : World) : Calls Try.prog 3 #[.int .u8 7] w fun e w' => e = .returned (.bool true) ∧ w' = w := by
  go_enter Try.func3, Try.ntmps3
  go_wp2_with (first | (go_at_call 6; refine (Spell.sp7 _).mono ?_; rintro e w' ⟨rfl, rfl⟩) | (go_at_call_of 5 (Value.int IntKind.u8 7); refine (Tok.op_below 7 (by omega) (by omega) _).mono ?_; rintro e w' ⟨rfl, rfl⟩) | (go_at_call_of 5 (Value.int IntKind.u8 8); refine (Tok.op_below 8 (by omega) (by omega) _).mono ?_; rintro e w' ⟨rfl, rfl⟩))
  go_ret
  exact ⟨rfl, rfl⟩

theorem at8 (w : World) : Calls Try.prog 3 #[.int .u8 8] w fun e w' => e = .returned (.bool true) ∧ w' = w := by
  go_enter Try.func3, Try.ntmps3
  go_wp2_with (first | (go_at_call 6; refine (Spell.sp8 _).mono ?_; rintro e w' ⟨rfl, rfl⟩) | (go_at_call_of 5 (Value.int IntKind.u8 8); refine (Tok.op_below 8 (by omega) (by omega) _).mono ?_; rintro e w' ⟨rfl, rfl⟩) | (go_at_call_of 5 (Value.int IntKind.u8 9); refine (Tok.op_below 9 (by omega) (by omega) _).mono ?_; rintro e w' ⟨rfl, rfl⟩))
  go_ret
  exact ⟨rfl, rfl⟩

theorem at9 (w : World) : Calls Try.prog 3 #[.int .u8 9] w fun e w' => e = .returned (.bool true) ∧ w' = w := by
  go_enter Try.func3, Try.ntmps3
  go_wp2_with (first | (go_at_call 6; refine (Spell.sp9 _).mono ?_; rintro e w' ⟨rfl, rfl⟩) | (go_at_call_of 5 (Value.int IntKind.u8 9); refine (Tok.op_below 9 (by omega) (by omega) _).mono ?_; rintro e w' ⟨rfl, rfl⟩) | (go_at_call_of 5 (Value.int IntKind.u8 10); refine (Tok.op_below 10 (by omega) (by omega) _).mono ?_; rintro e w' ⟨rfl, rfl⟩))
  go_ret
  exact ⟨rfl, rfl⟩

theorem at10 (w : World) : Calls Try.prog 3 #[.int .u8 10] w fun e w' => e = .returned (.bool true) ∧ w' = w := by
  go_enter Try.func3, Try.ntmps3
  go_wp2_with (first | (go_at_call 6; refine (Spell.sp10 _).mono ?_; rintro e w' ⟨rfl, rfl⟩) | (go_at_call_of 5 (Value.int IntKind.u8 10); refine (Tok.op_below 10 (by omega) (by omega) _).mono ?_; rintro e w' ⟨rfl, rfl⟩) | (go_at_call_of 5 (Value.int IntKind.u8 11); refine (Tok.op_below 11 (by omega) (by omega) _).mono ?_; rintro e w' ⟨rfl, rfl⟩))
  go_ret
  exact ⟨rfl, rfl⟩

theorem at11 (w : World) : Calls Try.prog 3 #[.int .u8 11] w fun e w' => e = .returned (.bool true) ∧ w' = w := by
  go_enter Try.func3, Try.ntmps3
  go_wp2_with (first | (go_at_call 6; refine (Spell.sp11 _).mono ?_; rintro e w' ⟨rfl, rfl⟩) | (go_at_call_of 5 (Value.int IntKind.u8 11); refine (Tok.op_below 11 (by omega) (by omega) _).mono ?_; rintro e w' ⟨rfl, rfl⟩) | (go_at_call_of 5 (Value.int IntKind.u8 12); refine (Tok.op_below 12 (by omega) (by omega) _).mono ?_; rintro e w' ⟨rfl, rfl⟩))
  go_ret
  exact ⟨rfl, rfl⟩

theorem at12 (w : World) : Calls Try.prog 3 #[.int .u8 12] w fun e w' => e = .returned (.bool true) ∧ w' = w := by
  go_enter Try.func3, Try.ntmps3
  go_wp2_with (first | (go_at_call 6; refine (Spell.sp12 _).mono ?_; rintro e w' ⟨rfl, rfl⟩) | (go_at_call_of 5 (Value.int IntKind.u8 12); refine (Tok.op_below 12 (by omega) (by omega) _).mono ?_; rintro e w' ⟨rfl, rfl⟩) | (go_at_call_of 5 (Value.int IntKind.u8 13); refine (Tok.op_below 13 (by omega) (by omega) _).mono ?_; rintro e w' ⟨rfl, rfl⟩))
  go_ret
  exact ⟨rfl, rfl⟩

theorem at13 (w : World) : Calls Try.prog 3 #[.int .u8 13] w fun e w' => e = .returned (.bool true) ∧ w' = w := by
  go_enter Try.func3, Try.ntmps3
  go_wp2_with (first | (go_at_call 6; refine (Spell.sp13 _).mono ?_; rintro e w' ⟨rfl, rfl⟩) | (go_at_call_of 5 (Value.int IntKind.u8 13); refine (Tok.op_below 13 (by omega) (by omega) _).mono ?_; rintro e w' ⟨rfl, rfl⟩) | (go_at_call_of 5 (Value.int IntKind.u8 14); refine (Tok.op_below 14 (by omega) (by omega) _).mono ?_; rintro e w' ⟨rfl, rfl⟩))
  go_ret
  exact ⟨rfl, rfl⟩

theorem at14 (w : World) : Calls Try.prog 3 #[.int .u8 14] w fun e w' => e = .returned (.bool true) ∧ w' = w := by
  go_enter Try.func3, Try.ntmps3
  go_wp2_with (first | (go_at_call 6; refine (Spell.sp14 _).mono ?_; rintro e w' ⟨rfl, rfl⟩) | (go_at_call_of 5 (Value.int IntKind.u8 14); refine (Tok.op_below 14 (by omega) (by omega) _).mono ?_; rintro e w' ⟨rfl, rfl⟩) | (go_at_call_of 5 (Value.int IntKind.u8 15); refine (Tok.op_below 15 (by omega) (by omega) _).mono ?_; rintro e w' ⟨rfl, rfl⟩))
  go_ret
  exact ⟨rfl, rfl⟩

theorem at15 (w : World) : Calls Try.prog 3 #[.int .u8 15] w fun e w' => e = .returned (.bool true) ∧ w' = w := by
  go_enter Try.func3, Try.ntmps3
  go_wp2_with (first | (go_at_call 6; refine (Spell.sp15 _).mono ?_; rintro e w' ⟨rfl, rfl⟩) | (go_at_call_of 5 (Value.int IntKind.u8 15); refine (Tok.op_below 15 (by omega) (by omega) _).mono ?_; rintro e w' ⟨rfl, rfl⟩) | (go_at_call_of 5 (Value.int IntKind.u8 16); refine (Tok.op_below 16 (by omega) (by omega) _).mono ?_; rintro e w' ⟨rfl, rfl⟩))
  go_ret
  exact ⟨rfl, rfl⟩

theorem at16 (w : World) : Calls Try.prog 3 #[.int .u8 16] w fun e w' => e = .returned (.bool true) ∧ w' = w := by
  go_enter Try.func3, Try.ntmps3
  go_wp2_with (first | (go_at_call 6; refine (Spell.sp16 _).mono ?_; rintro e w' ⟨rfl, rfl⟩) | (go_at_call_of 5 (Value.int IntKind.u8 16); refine (Tok.op_below 16 (by omega) (by omega) _).mono ?_; rintro e w' ⟨rfl, rfl⟩) | (go_at_call_of 5 (Value.int IntKind.u8 17); refine (Tok.op_below 17 (by omega) (by omega) _).mono ?_; rintro e w' ⟨rfl, rfl⟩))
  go_ret
  exact ⟨rfl, rfl⟩

theorem at17 (w : World) : Calls Try.prog 3 #[.int .u8 17] w fun e w' => e = .returned (.bool true) ∧ w' = w := by
  go_enter Try.func3, Try.ntmps3
  go_wp2_with (first | (go_at_call 6; refine (Spell.sp17 _).mono ?_; rintro e w' ⟨rfl, rfl⟩) | (go_at_call_of 5 (Value.int IntKind.u8 17); refine (Tok.op_below 17 (by omega) (by omega) _).mono ?_; rintro e w' ⟨rfl, rfl⟩) | (go_at_call_of 5 (Value.int IntKind.u8 18); refine (Tok.op_in 18 (by omega) (by omega) _).mono ?_; rintro e w' ⟨rfl, rfl⟩))
  go_ret
  exact ⟨rfl, rfl⟩

theorem at18 (w : World) : Calls Try.prog 3 #[.int .u8 18] w fun e w' => e = .returned (.bool true) ∧ w' = w := by
  go_enter Try.func3, Try.ntmps3
  go_wp2_with (first | (go_at_call 6; refine (Spell.sp18 _).mono ?_; rintro e w' ⟨rfl, rfl⟩) | (go_at_call_of 5 (Value.int IntKind.u8 18); refine (Tok.op_in 18 (by omega) (by omega) _).mono ?_; rintro e w' ⟨rfl, rfl⟩) | (go_at_call_of 5 (Value.int IntKind.u8 19); refine (Tok.op_in 19 (by omega) (by omega) _).mono ?_; rintro e w' ⟨rfl, rfl⟩) | (go_at_call 7; refine (Spell.b18 _).mono ?_; rintro e w' ⟨rfl, rfl⟩))
  go_ret
  exact ⟨rfl, rfl⟩

theorem at19 (w : World) : Calls Try.prog 3 #[.int .u8 19] w fun e w' => e = .returned (.bool true) ∧ w' = w := by
  go_enter Try.func3, Try.ntmps3
  go_wp2_with (first | (go_at_call 6; refine (Spell.sp19 _).mono ?_; rintro e w' ⟨rfl, rfl⟩) | (go_at_call_of 5 (Value.int IntKind.u8 19); refine (Tok.op_in 19 (by omega) (by omega) _).mono ?_; rintro e w' ⟨rfl, rfl⟩) | (go_at_call_of 5 (Value.int IntKind.u8 20); refine (Tok.op_in 20 (by omega) (by omega) _).mono ?_; rintro e w' ⟨rfl, rfl⟩) | (go_at_call 7; refine (Spell.b19 _).mono ?_; rintro e w' ⟨rfl, rfl⟩))
  go_ret
  exact ⟨rfl, rfl⟩

theorem at20 (w : World) : Calls Try.prog 3 #[.int .u8 20] w fun e w' => e = .returned (.bool true) ∧ w' = w := by
  go_enter Try.func3, Try.ntmps3
  go_wp2_with (first | (go_at_call 6; refine (Spell.sp20 _).mono ?_; rintro e w' ⟨rfl, rfl⟩) | (go_at_call_of 5 (Value.int IntKind.u8 20); refine (Tok.op_in 20 (by omega) (by omega) _).mono ?_; rintro e w' ⟨rfl, rfl⟩) | (go_at_call_of 5 (Value.int IntKind.u8 21); refine (Tok.op_in 21 (by omega) (by omega) _).mono ?_; rintro e w' ⟨rfl, rfl⟩) | (go_at_call 7; refine (Spell.b20 _).mono ?_; rintro e w' ⟨rfl, rfl⟩))
  go_ret
  exact ⟨rfl, rfl⟩

theorem at21 (w : World) : Calls Try.prog 3 #[.int .u8 21] w fun e w' => e = .returned (.bool true) ∧ w' = w := by
  go_enter Try.func3, Try.ntmps3
  go_wp2_with (first | (go_at_call 6; refine (Spell.sp21 _).mono ?_; rintro e w' ⟨rfl, rfl⟩) | (go_at_call_of 5 (Value.int IntKind.u8 21); refine (Tok.op_in 21 (by omega) (by omega) _).mono ?_; rintro e w' ⟨rfl, rfl⟩) | (go_at_call_of 5 (Value.int IntKind.u8 22); refine (Tok.op_in 22 (by omega) (by omega) _).mono ?_; rintro e w' ⟨rfl, rfl⟩) | (go_at_call 7; refine (Spell.b21 _).mono ?_; rintro e w' ⟨rfl, rfl⟩))
  go_ret
  exact ⟨rfl, rfl⟩

theorem at22 (w : World) : Calls Try.prog 3 #[.int .u8 22] w fun e w' => e = .returned (.bool true) ∧ w' = w := by
  go_enter Try.func3, Try.ntmps3
  go_wp2_with (first | (go_at_call 6; refine (Spell.sp22 _).mono ?_; rintro e w' ⟨rfl, rfl⟩) | (go_at_call_of 5 (Value.int IntKind.u8 22); refine (Tok.op_in 22 (by omega) (by omega) _).mono ?_; rintro e w' ⟨rfl, rfl⟩) | (go_at_call_of 5 (Value.int IntKind.u8 23); refine (Tok.op_in 23 (by omega) (by omega) _).mono ?_; rintro e w' ⟨rfl, rfl⟩) | (go_at_call 7; refine (Spell.b22 _).mono ?_; rintro e w' ⟨rfl, rfl⟩))
  go_ret
  exact ⟨rfl, rfl⟩

theorem at23 (w : World) : Calls Try.prog 3 #[.int .u8 23] w fun e w' => e = .returned (.bool true) ∧ w' = w := by
  go_enter Try.func3, Try.ntmps3
  go_wp2_with (first | (go_at_call 6; refine (Spell.sp23 _).mono ?_; rintro e w' ⟨rfl, rfl⟩) | (go_at_call_of 5 (Value.int IntKind.u8 23); refine (Tok.op_in 23 (by omega) (by omega) _).mono ?_; rintro e w' ⟨rfl, rfl⟩) | (go_at_call_of 5 (Value.int IntKind.u8 24); refine (Tok.op_in 24 (by omega) (by omega) _).mono ?_; rintro e w' ⟨rfl, rfl⟩) | (go_at_call 7; refine (Spell.b23 _).mono ?_; rintro e w' ⟨rfl, rfl⟩))
  go_ret
  exact ⟨rfl, rfl⟩

theorem at24 (w : World) : Calls Try.prog 3 #[.int .u8 24] w fun e w' => e = .returned (.bool true) ∧ w' = w := by
  go_enter Try.func3, Try.ntmps3
  go_wp2_with (first | (go_at_call 6; refine (Spell.sp24 _).mono ?_; rintro e w' ⟨rfl, rfl⟩) | (go_at_call_of 5 (Value.int IntKind.u8 24); refine (Tok.op_in 24 (by omega) (by omega) _).mono ?_; rintro e w' ⟨rfl, rfl⟩) | (go_at_call_of 5 (Value.int IntKind.u8 25); refine (Tok.op_in 25 (by omega) (by omega) _).mono ?_; rintro e w' ⟨rfl, rfl⟩) | (go_at_call 7; refine (Spell.b24 _).mono ?_; rintro e w' ⟨rfl, rfl⟩))
  go_ret
  exact ⟨rfl, rfl⟩

theorem at25 (w : World) : Calls Try.prog 3 #[.int .u8 25] w fun e w' => e = .returned (.bool true) ∧ w' = w := by
  go_enter Try.func3, Try.ntmps3
  go_wp2_with (first | (go_at_call 6; refine (Spell.sp25 _).mono ?_; rintro e w' ⟨rfl, rfl⟩) | (go_at_call_of 5 (Value.int IntKind.u8 25); refine (Tok.op_in 25 (by omega) (by omega) _).mono ?_; rintro e w' ⟨rfl, rfl⟩) | (go_at_call_of 5 (Value.int IntKind.u8 26); refine (Tok.op_in 26 (by omega) (by omega) _).mono ?_; rintro e w' ⟨rfl, rfl⟩) | (go_at_call 7; refine (Spell.b25 _).mono ?_; rintro e w' ⟨rfl, rfl⟩))
  go_ret
  exact ⟨rfl, rfl⟩

theorem at26 (w : World) : Calls Try.prog 3 #[.int .u8 26] w fun e w' => e = .returned (.bool true) ∧ w' = w := by
  go_enter Try.func3, Try.ntmps3
  go_wp2_with (first | (go_at_call 6; refine (Spell.sp26 _).mono ?_; rintro e w' ⟨rfl, rfl⟩) | (go_at_call_of 5 (Value.int IntKind.u8 26); refine (Tok.op_in 26 (by omega) (by omega) _).mono ?_; rintro e w' ⟨rfl, rfl⟩) | (go_at_call_of 5 (Value.int IntKind.u8 27); refine (Tok.op_in 27 (by omega) (by omega) _).mono ?_; rintro e w' ⟨rfl, rfl⟩) | (go_at_call 7; refine (Spell.b26 _).mono ?_; rintro e w' ⟨rfl, rfl⟩))
  go_ret
  exact ⟨rfl, rfl⟩

theorem at27 (w : World) : Calls Try.prog 3 #[.int .u8 27] w fun e w' => e = .returned (.bool true) ∧ w' = w := by
  go_enter Try.func3, Try.ntmps3
  go_wp2_with (first | (go_at_call 6; refine (Spell.sp27 _).mono ?_; rintro e w' ⟨rfl, rfl⟩) | (go_at_call_of 5 (Value.int IntKind.u8 27); refine (Tok.op_in 27 (by omega) (by omega) _).mono ?_; rintro e w' ⟨rfl, rfl⟩) | (go_at_call_of 5 (Value.int IntKind.u8 28); refine (Tok.op_in 28 (by omega) (by omega) _).mono ?_; rintro e w' ⟨rfl, rfl⟩) | (go_at_call 7; refine (Spell.b27 _).mono ?_; rintro e w' ⟨rfl, rfl⟩))
  go_ret
  exact ⟨rfl, rfl⟩

theorem at28 (w : World) : Calls Try.prog 3 #[.int .u8 28] w fun e w' => e = .returned (.bool true) ∧ w' = w := by
  go_enter Try.func3, Try.ntmps3
  go_wp2_with (first | (go_at_call 6; refine (Spell.sp28 _).mono ?_; rintro e w' ⟨rfl, rfl⟩) | (go_at_call_of 5 (Value.int IntKind.u8 28); refine (Tok.op_in 28 (by omega) (by omega) _).mono ?_; rintro e w' ⟨rfl, rfl⟩) | (go_at_call_of 5 (Value.int IntKind.u8 29); refine (Tok.op_above 29 (by omega) (by omega) _).mono ?_; rintro e w' ⟨rfl, rfl⟩) | (go_at_call 7; refine (Spell.b28 _).mono ?_; rintro e w' ⟨rfl, rfl⟩))
  go_ret
  exact ⟨rfl, rfl⟩

theorem at29 (w : World) : Calls Try.prog 3 #[.int .u8 29] w fun e w' => e = .returned (.bool true) ∧ w' = w := by
  go_enter Try.func3, Try.ntmps3
  go_wp2_with (first | (go_at_call 6; refine (Spell.sp29 _).mono ?_; rintro e w' ⟨rfl, rfl⟩) | (go_at_call_of 5 (Value.int IntKind.u8 29); refine (Tok.op_above 29 (by omega) (by omega) _).mono ?_; rintro e w' ⟨rfl, rfl⟩) | (go_at_call_of 5 (Value.int IntKind.u8 30); refine (Tok.op_above 30 (by omega) (by omega) _).mono ?_; rintro e w' ⟨rfl, rfl⟩))
  go_ret
  exact ⟨rfl, rfl⟩

theorem at30 (w : World) : Calls Try.prog 3 #[.int .u8 30] w fun e w' => e = .returned (.bool true) ∧ w' = w := by
  go_enter Try.func3, Try.ntmps3
  go_wp2_with (first | (go_at_call 6; refine (Spell.sp30 _).mono ?_; rintro e w' ⟨rfl, rfl⟩) | (go_at_call_of 5 (Value.int IntKind.u8 30); refine (Tok.op_above 30 (by omega) (by omega) _).mono ?_; rintro e w' ⟨rfl, rfl⟩) | (go_at_call_of 5 (Value.int IntKind.u8 31); refine (Tok.op_above 31 (by omega) (by omega) _).mono ?_; rintro e w' ⟨rfl, rfl⟩))
  go_ret
  exact ⟨rfl, rfl⟩

theorem at31 (w : World) : Calls Try.prog 3 #[.int .u8 31] w fun e w' => e = .returned (.bool true) ∧ w' = w := by
  go_enter Try.func3, Try.ntmps3
  go_wp2_with (first | (go_at_call 6; refine (Spell.sp31 _).mono ?_; rintro e w' ⟨rfl, rfl⟩) | (go_at_call_of 5 (Value.int IntKind.u8 31); refine (Tok.op_above 31 (by omega) (by omega) _).mono ?_; rintro e w' ⟨rfl, rfl⟩) | (go_at_call_of 5 (Value.int IntKind.u8 32); refine (Tok.op_above 32 (by omega) (by omega) _).mono ?_; rintro e w' ⟨rfl, rfl⟩))
  go_ret
  exact ⟨rfl, rfl⟩

theorem at32 (w : World) : Calls Try.prog 3 #[.int .u8 32] w fun e w' => e = .returned (.bool true) ∧ w' = w := by
  go_enter Try.func3, Try.ntmps3
  go_wp2_with (first | (go_at_call 6; refine (Spell.sp32 _).mono ?_; rintro e w' ⟨rfl, rfl⟩) | (go_at_call_of 5 (Value.int IntKind.u8 32); refine (Tok.op_above 32 (by omega) (by omega) _).mono ?_; rintro e w' ⟨rfl, rfl⟩) | (go_at_call_of 5 (Value.int IntKind.u8 33); refine (Tok.op_above 33 (by omega) (by omega) _).mono ?_; rintro e w' ⟨rfl, rfl⟩))
  go_ret
  exact ⟨rfl, rfl⟩

theorem at33 (w : World) : Calls Try.prog 3 #[.int .u8 33] w fun e w' => e = .returned (.bool true) ∧ w' = w := by
  go_enter Try.func3, Try.ntmps3
  go_wp2_with (first | (go_at_call 6; refine (Spell.sp33 _).mono ?_; rintro e w' ⟨rfl, rfl⟩) | (go_at_call_of 5 (Value.int IntKind.u8 33); refine (Tok.op_above 33 (by omega) (by omega) _).mono ?_; rintro e w' ⟨rfl, rfl⟩) | (go_at_call_of 5 (Value.int IntKind.u8 34); refine (Tok.op_above 34 (by omega) (by omega) _).mono ?_; rintro e w' ⟨rfl, rfl⟩))
  go_ret
  exact ⟨rfl, rfl⟩

theorem at34 (w : World) : Calls Try.prog 3 #[.int .u8 34] w fun e w' => e = .returned (.bool true) ∧ w' = w := by
  go_enter Try.func3, Try.ntmps3
  go_wp2_with (first | (go_at_call 6; refine (Spell.sp34 _).mono ?_; rintro e w' ⟨rfl, rfl⟩) | (go_at_call_of 5 (Value.int IntKind.u8 34); refine (Tok.op_above 34 (by omega) (by omega) _).mono ?_; rintro e w' ⟨rfl, rfl⟩) | (go_at_call_of 5 (Value.int IntKind.u8 35); refine (Tok.op_above 35 (by omega) (by omega) _).mono ?_; rintro e w' ⟨rfl, rfl⟩) | (go_at_call 7; refine (Spell.b34 _).mono ?_; rintro e w' ⟨rfl, rfl⟩))
  go_ret
  exact ⟨rfl, rfl⟩

theorem at35 (w : World) : Calls Try.prog 3 #[.int .u8 35] w fun e w' => e = .returned (.bool true) ∧ w' = w := by
  go_enter Try.func3, Try.ntmps3
  go_wp2_with (first | (go_at_call 6; refine (Spell.sp35 _).mono ?_; rintro e w' ⟨rfl, rfl⟩) | (go_at_call_of 5 (Value.int IntKind.u8 35); refine (Tok.op_above 35 (by omega) (by omega) _).mono ?_; rintro e w' ⟨rfl, rfl⟩) | (go_at_call_of 5 (Value.int IntKind.u8 36); refine (Tok.op_above 36 (by omega) (by omega) _).mono ?_; rintro e w' ⟨rfl, rfl⟩) | (go_at_call 7; refine (Spell.b35 _).mono ?_; rintro e w' ⟨rfl, rfl⟩))
  go_ret
  exact ⟨rfl, rfl⟩

theorem at36 (w : World) : Calls Try.prog 3 #[.int .u8 36] w fun e w' => e = .returned (.bool true) ∧ w' = w := by
  go_enter Try.func3, Try.ntmps3
  go_wp2_with (first | (go_at_call 6; refine (Spell.sp36 _).mono ?_; rintro e w' ⟨rfl, rfl⟩) | (go_at_call_of 5 (Value.int IntKind.u8 36); refine (Tok.op_above 36 (by omega) (by omega) _).mono ?_; rintro e w' ⟨rfl, rfl⟩) | (go_at_call_of 5 (Value.int IntKind.u8 37); refine (Tok.op_above 37 (by omega) (by omega) _).mono ?_; rintro e w' ⟨rfl, rfl⟩))
  go_ret
  exact ⟨rfl, rfl⟩

theorem at37 (w : World) : Calls Try.prog 3 #[.int .u8 37] w fun e w' => e = .returned (.bool true) ∧ w' = w := by
  go_enter Try.func3, Try.ntmps3
  go_wp2_with (first | (go_at_call 6; refine (Spell.sp37 _).mono ?_; rintro e w' ⟨rfl, rfl⟩) | (go_at_call_of 5 (Value.int IntKind.u8 37); refine (Tok.op_above 37 (by omega) (by omega) _).mono ?_; rintro e w' ⟨rfl, rfl⟩) | (go_at_call_of 5 (Value.int IntKind.u8 38); refine (Tok.op_above 38 (by omega) (by omega) _).mono ?_; rintro e w' ⟨rfl, rfl⟩) | (go_at_call 7; refine (Spell.b37 _).mono ?_; rintro e w' ⟨rfl, rfl⟩))
  go_ret
  exact ⟨rfl, rfl⟩

theorem at38 (w : World) : Calls Try.prog 3 #[.int .u8 38] w fun e w' => e = .returned (.bool true) ∧ w' = w := by
  go_enter Try.func3, Try.ntmps3
  go_wp2_with (first | (go_at_call 6; refine (Spell.sp38 _).mono ?_; rintro e w' ⟨rfl, rfl⟩) | (go_at_call_of 5 (Value.int IntKind.u8 38); refine (Tok.op_above 38 (by omega) (by omega) _).mono ?_; rintro e w' ⟨rfl, rfl⟩) | (go_at_call_of 5 (Value.int IntKind.u8 39); refine (Tok.op_above 39 (by omega) (by omega) _).mono ?_; rintro e w' ⟨rfl, rfl⟩))
  go_ret
  exact ⟨rfl, rfl⟩

theorem at39 (w : World) : Calls Try.prog 3 #[.int .u8 39] w fun e w' => e = .returned (.bool true) ∧ w' = w := by
  go_enter Try.func3, Try.ntmps3
  go_wp2_with (first | (go_at_call 6; refine (Spell.sp39 _).mono ?_; rintro e w' ⟨rfl, rfl⟩) | (go_at_call_of 5 (Value.int IntKind.u8 39); refine (Tok.op_above 39 (by omega) (by omega) _).mono ?_; rintro e w' ⟨rfl, rfl⟩) | (go_at_call_of 5 (Value.int IntKind.u8 40); refine (Tok.op_above 40 (by omega) (by omega) _).mono ?_; rintro e w' ⟨rfl, rfl⟩) | (go_at_call 7; refine (Spell.b39 _).mono ?_; rintro e w' ⟨rfl, rfl⟩))
  go_ret
  exact ⟨rfl, rfl⟩

theorem at40 (w : World) : Calls Try.prog 3 #[.int .u8 40] w fun e w' => e = .returned (.bool true) ∧ w' = w := by
  go_enter Try.func3, Try.ntmps3
  go_wp2_with (first | (go_at_call 6; refine (Spell.sp40 _).mono ?_; rintro e w' ⟨rfl, rfl⟩) | (go_at_call_of 5 (Value.int IntKind.u8 40); refine (Tok.op_above 40 (by omega) (by omega) _).mono ?_; rintro e w' ⟨rfl, rfl⟩) | (go_at_call_of 5 (Value.int IntKind.u8 41); refine (Tok.op_above 41 (by omega) (by omega) _).mono ?_; rintro e w' ⟨rfl, rfl⟩))
  go_ret
  exact ⟨rfl, rfl⟩

theorem at41 (w : World) : Calls Try.prog 3 #[.int .u8 41] w fun e w' => e = .returned (.bool true) ∧ w' = w := by
  go_enter Try.func3, Try.ntmps3
  go_wp2_with (first | (go_at_call 6; refine (Spell.sp41 _).mono ?_; rintro e w' ⟨rfl, rfl⟩) | (go_at_call_of 5 (Value.int IntKind.u8 41); refine (Tok.op_above 41 (by omega) (by omega) _).mono ?_; rintro e w' ⟨rfl, rfl⟩) | (go_at_call_of 5 (Value.int IntKind.u8 42); refine (Tok.op_above 42 (by omega) (by omega) _).mono ?_; rintro e w' ⟨rfl, rfl⟩) | (go_at_call 7; refine (Spell.b41 _).mono ?_; rintro e w' ⟨rfl, rfl⟩))
  go_ret
  exact ⟨rfl, rfl⟩

theorem at42 (w : World) : Calls Try.prog 3 #[.int .u8 42] w fun e w' => e = .returned (.bool true) ∧ w' = w := by
  go_enter Try.func3, Try.ntmps3
  go_wp2_with (first | (go_at_call 6; refine (Spell.sp42 _).mono ?_; rintro e w' ⟨rfl, rfl⟩) | (go_at_call_of 5 (Value.int IntKind.u8 42); refine (Tok.op_above 42 (by omega) (by omega) _).mono ?_; rintro e w' ⟨rfl, rfl⟩) | (go_at_call_of 5 (Value.int IntKind.u8 43); refine (Tok.op_above 43 (by omega) (by omega) _).mono ?_; rintro e w' ⟨rfl, rfl⟩))
  go_ret
  exact ⟨rfl, rfl⟩

theorem at43 (w : World) : Calls Try.prog 3 #[.int .u8 43] w fun e w' => e = .returned (.bool true) ∧ w' = w := by
  go_enter Try.func3, Try.ntmps3
  go_wp2_with (first | (go_at_call 6; refine (Spell.sp43 _).mono ?_; rintro e w' ⟨rfl, rfl⟩) | (go_at_call_of 5 (Value.int IntKind.u8 43); refine (Tok.op_above 43 (by omega) (by omega) _).mono ?_; rintro e w' ⟨rfl, rfl⟩) | (go_at_call_of 5 (Value.int IntKind.u8 44); refine (Tok.op_above 44 (by omega) (by omega) _).mono ?_; rintro e w' ⟨rfl, rfl⟩))
  go_ret
  exact ⟨rfl, rfl⟩

theorem at44 (w : World) : Calls Try.prog 3 #[.int .u8 44] w fun e w' => e = .returned (.bool true) ∧ w' = w := by
  go_enter Try.func3, Try.ntmps3
  go_wp2_with (first | (go_at_call 6; refine (Spell.sp44 _).mono ?_; rintro e w' ⟨rfl, rfl⟩) | (go_at_call_of 5 (Value.int IntKind.u8 44); refine (Tok.op_above 44 (by omega) (by omega) _).mono ?_; rintro e w' ⟨rfl, rfl⟩) | (go_at_call_of 5 (Value.int IntKind.u8 45); refine (Tok.op_above 45 (by omega) (by omega) _).mono ?_; rintro e w' ⟨rfl, rfl⟩))
  go_ret
  exact ⟨rfl, rfl⟩

theorem at54 (w : World) : Calls Try.prog 3 #[.int .u8 54] w fun e w' => e = .returned (.bool true) ∧ w' = w := by
  go_enter Try.func3, Try.ntmps3
  go_wp2_with (first | (go_at_call 6; refine (Spell.sp54 _).mono ?_; rintro e w' ⟨rfl, rfl⟩) | (go_at_call_of 5 (Value.int IntKind.u8 54); refine (Tok.op_above 54 (by omega) (by omega) _).mono ?_; rintro e w' ⟨rfl, rfl⟩) | (go_at_call_of 5 (Value.int IntKind.u8 55); refine (Tok.op_above 55 (by omega) (by omega) _).mono ?_; rintro e w' ⟨rfl, rfl⟩))
  go_ret
  exact ⟨rfl, rfl⟩

theorem atLow (a : Int) (h0 : 0 ≤ a) (h1 : a < 7) (w : World) : Calls Try.prog 3 #[.int .u8 a] w fun e w' => e = .returned (.bool true) ∧ w' = w := by
  go_enter Try.func3, Try.ntmps3
  go_wp2_with (first | (go_at_call 6; refine (Spell.spLow _ (by omega) (by omega) _).mono ?_; rintro e w' ⟨rfl, rfl⟩) | (go_at_call 5; refine (Tok.op_below _ (by omega) (by omega) _).mono ?_; rintro e w' ⟨rfl, rfl⟩))
  go_ret
  exact ⟨rfl, rfl⟩

theorem atMid (a : Int) (h0 : 44 < a) (h1 : a < 54) (w : World) : Calls Try.prog 3 #[.int .u8 a] w fun e w' => e = .returned (.bool true) ∧ w' = w := by
  go_enter Try.func3, Try.ntmps3
  go_wp2_with (first | (go_at_call 6; refine (Spell.spMid _ (by omega) (by omega) _).mono ?_; rintro e w' ⟨rfl, rfl⟩) | (go_at_call 5; refine (Tok.op_above _ (by omega) (by omega) _).mono ?_; rintro e w' ⟨rfl, rfl⟩))
  go_ret
  exact ⟨rfl, rfl⟩

theorem atHigh (a : Int) (h0 : 54 < a) (h1 : a < 255) (w : World) : Calls Try.prog 3 #[.int .u8 a] w fun e w' => e = .returned (.bool true) ∧ w' = w := by
  go_enter Try.func3, Try.ntmps3
  go_wp2_with (first | (go_at_call 6; refine (Spell.spHigh _ (by omega) (by omega) _).mono ?_; rintro e w' ⟨rfl, rfl⟩) | (go_at_call 5; refine (Tok.op_above _ (by omega) (by omega) _).mono ?_; rintro e w' ⟨rfl, rfl⟩))
  go_ret
  exact ⟨rfl, rfl⟩

theorem at255 (w : World) : Calls Try.prog 3 #[.int .u8 255] w fun e w' => e = .returned (.bool true) ∧ w' = w := by
  go_enter Try.func3, Try.ntmps3
  go_wp2_with (first | (go_at_call 6; refine (Spell.spHigh 255 (by omega) (by omega) _).mono ?_; rintro e w' ⟨rfl, rfl⟩) | (go_at_call_of 5 (Value.int IntKind.u8 255); refine (Tok.op_above 255 (by omega) (by omega) _).mono ?_; rintro e w' ⟨rfl, rfl⟩) | (go_at_call_of 5 (Value.int IntKind.u8 0); refine (Tok.op_below 0 (by omega) (by omega) _).mono ?_; rintro e w' ⟨rfl, rfl⟩))
  go_ret
  exact ⟨rfl, rfl⟩

theorem at_any (a : Int) (b0 : 0 ≤ a) (b1 : a ≤ 255) (w : World) : Calls Try.prog 3 #[.int .u8 a] w fun e w' => e = .returned (.bool true) ∧ w' = w := by
  by_cases e7 : a = 7
  · subst e7; exact at7 w
  by_cases e8 : a = 8
  · subst e8; exact at8 w
  by_cases e9 : a = 9
  · subst e9; exact at9 w
  by_cases e10 : a = 10
  · subst e10; exact at10 w
  by_cases e11 : a = 11
  · subst e11; exact at11 w
  by_cases e12 : a = 12
  · subst e12; exact at12 w
  by_cases e13 : a = 13
  · subst e13; exact at13 w
  by_cases e14 : a = 14
  · subst e14; exact at14 w
  by_cases e15 : a = 15
  · subst e15; exact at15 w
  by_cases e16 : a = 16
  · subst e16; exact at16 w
  by_cases e17 : a = 17
  · subst e17; exact at17 w
  by_cases e18 : a = 18
  · subst e18; exact at18 w
  by_cases e19 : a = 19
  · subst e19; exact at19 w
  by_cases e20 : a = 20
  · subst e20; exact at20 w
  by_cases e21 : a = 21
  · subst e21; exact at21 w
  by_cases e22 : a = 22
  · subst e22; exact at22 w
  by_cases e23 : a = 23
  · subst e23; exact at23 w
  by_cases e24 : a = 24
  · subst e24; exact at24 w
  by_cases e25 : a = 25
  · subst e25; exact at25 w
  by_cases e26 : a = 26
  · subst e26; exact at26 w
  by_cases e27 : a = 27
  · subst e27; exact at27 w
  by_cases e28 : a = 28
  · subst e28; exact at28 w
  by_cases e29 : a = 29
  · subst e29; exact at29 w
  by_cases e30 : a = 30
  · subst e30; exact at30 w
  by_cases e31 : a = 31
  · subst e31; exact at31 w
  by_cases e32 : a = 32
  · subst e32; exact at32 w
  by_cases e33 : a = 33
  · subst e33; exact at33 w
  by_cases e34 : a = 34
  · subst e34; exact at34 w
  by_cases e35 : a = 35
  · subst e35; exact at35 w
  by_cases e36 : a = 36
  · subst e36; exact at36 w
  by_cases e37 : a = 37
  · subst e37; exact at37 w
  by_cases e38 : a = 38
  · subst e38; exact at38 w
  by_cases e39 : a = 39
  · subst e39; exact at39 w
  by_cases e40 : a = 40
  · subst e40; exact at40 w
  by_cases e41 : a = 41
  · subst e41; exact at41 w
  by_cases e42 : a = 42
  · subst e42; exact at42 w
  by_cases e43 : a = 43
  · subst e43; exact at43 w
  by_cases e44 : a = 44
  · subst e44; exact at44 w
  by_cases e54 : a = 54
  · subst e54; exact at54 w
  by_cases e255 : a = 255
  · subst e255; exact at255 w
  by_cases c0 : a < 7
  · exact atLow a b0 c0 w
  by_cases c1 : a < 54
  · exact atMid a (by omega) c1 w
  · exact atHigh a (by omega) (by omega) w

end Go.Proofs.Qxb6626231a.Law2
