import Derived.Test.Qxb6626231aTok
import Derived.WalkLawsBesides
namespace Go.Proofs.Qxb6626231a.Spell
open Go.ChangeShapes Go.WideShapes Go.ChangeAt Go.RowKit

/-! 'spellOf' (function 6) at each token that has a spelling, and at all others. -/

theorem sp7 (w : World) : Calls Try.prog 6 #[.int .u8 7] w fun e w' => e = .returned (.string ⟨#[43]⟩) ∧ w' = w := by
  go_enter Try.func6, Try.ntmps6
  go_wp2
  go_ret
  exact ⟨rfl, rfl⟩

theorem sp8 (w : World) : Calls Try.prog 6 #[.int .u8 8] w fun e w' => e = .returned (.string ⟨#[45]⟩) ∧ w' = w := by
  go_enter Try.func6, Try.ntmps6
  go_wp2
  go_ret
  exact ⟨rfl, rfl⟩

theorem sp9 (w : World) : Calls Try.prog 6 #[.int .u8 9] w fun e w' => e = .returned (.string ⟨#[42]⟩) ∧ w' = w := by
  go_enter Try.func6, Try.ntmps6
  go_wp2
  go_ret
  exact ⟨rfl, rfl⟩

theorem sp10 (w : World) : Calls Try.prog 6 #[.int .u8 10] w fun e w' => e = .returned (.string ⟨#[47]⟩) ∧ w' = w := by
  go_enter Try.func6, Try.ntmps6
  go_wp2
  go_ret
  exact ⟨rfl, rfl⟩

theorem sp11 (w : World) : Calls Try.prog 6 #[.int .u8 11] w fun e w' => e = .returned (.string ⟨#[37]⟩) ∧ w' = w := by
  go_enter Try.func6, Try.ntmps6
  go_wp2
  go_ret
  exact ⟨rfl, rfl⟩

theorem sp12 (w : World) : Calls Try.prog 6 #[.int .u8 12] w fun e w' => e = .returned (.string ⟨#[38]⟩) ∧ w' = w := by
  go_enter Try.func6, Try.ntmps6
  go_wp2
  go_ret
  exact ⟨rfl, rfl⟩

theorem sp13 (w : World) : Calls Try.prog 6 #[.int .u8 13] w fun e w' => e = .returned (.string ⟨#[124]⟩) ∧ w' = w := by
  go_enter Try.func6, Try.ntmps6
  go_wp2
  go_ret
  exact ⟨rfl, rfl⟩

theorem sp14 (w : World) : Calls Try.prog 6 #[.int .u8 14] w fun e w' => e = .returned (.string ⟨#[94]⟩) ∧ w' = w := by
  go_enter Try.func6, Try.ntmps6
  go_wp2
  go_ret
  exact ⟨rfl, rfl⟩

theorem sp15 (w : World) : Calls Try.prog 6 #[.int .u8 15] w fun e w' => e = .returned (.string ⟨#[60, 60]⟩) ∧ w' = w := by
  go_enter Try.func6, Try.ntmps6
  go_wp2
  go_ret
  exact ⟨rfl, rfl⟩

theorem sp16 (w : World) : Calls Try.prog 6 #[.int .u8 16] w fun e w' => e = .returned (.string ⟨#[62, 62]⟩) ∧ w' = w := by
  go_enter Try.func6, Try.ntmps6
  go_wp2
  go_ret
  exact ⟨rfl, rfl⟩

theorem sp17 (w : World) : Calls Try.prog 6 #[.int .u8 17] w fun e w' => e = .returned (.string ⟨#[38, 94]⟩) ∧ w' = w := by
  go_enter Try.func6, Try.ntmps6
  go_wp2
  go_ret
  exact ⟨rfl, rfl⟩

theorem sp18 (w : World) : Calls Try.prog 6 #[.int .u8 18] w fun e w' => e = .returned (.string ⟨#[43, 61]⟩) ∧ w' = w := by
  go_enter Try.func6, Try.ntmps6
  go_wp2
  go_ret
  exact ⟨rfl, rfl⟩

theorem sp19 (w : World) : Calls Try.prog 6 #[.int .u8 19] w fun e w' => e = .returned (.string ⟨#[45, 61]⟩) ∧ w' = w := by
  go_enter Try.func6, Try.ntmps6
  go_wp2
  go_ret
  exact ⟨rfl, rfl⟩

theorem sp20 (w : World) : Calls Try.prog 6 #[.int .u8 20] w fun e w' => e = .returned (.string ⟨#[42, 61]⟩) ∧ w' = w := by
  go_enter Try.func6, Try.ntmps6
  go_wp2
  go_ret
  exact ⟨rfl, rfl⟩

theorem sp21 (w : World) : Calls Try.prog 6 #[.int .u8 21] w fun e w' => e = .returned (.string ⟨#[47, 61]⟩) ∧ w' = w := by
  go_enter Try.func6, Try.ntmps6
  go_wp2
  go_ret
  exact ⟨rfl, rfl⟩

theorem sp22 (w : World) : Calls Try.prog 6 #[.int .u8 22] w fun e w' => e = .returned (.string ⟨#[37, 61]⟩) ∧ w' = w := by
  go_enter Try.func6, Try.ntmps6
  go_wp2
  go_ret
  exact ⟨rfl, rfl⟩

theorem sp23 (w : World) : Calls Try.prog 6 #[.int .u8 23] w fun e w' => e = .returned (.string ⟨#[38, 61]⟩) ∧ w' = w := by
  go_enter Try.func6, Try.ntmps6
  go_wp2
  go_ret
  exact ⟨rfl, rfl⟩

theorem sp24 (w : World) : Calls Try.prog 6 #[.int .u8 24] w fun e w' => e = .returned (.string ⟨#[124, 61]⟩) ∧ w' = w := by
  go_enter Try.func6, Try.ntmps6
  go_wp2
  go_ret
  exact ⟨rfl, rfl⟩

theorem sp25 (w : World) : Calls Try.prog 6 #[.int .u8 25] w fun e w' => e = .returned (.string ⟨#[94, 61]⟩) ∧ w' = w := by
  go_enter Try.func6, Try.ntmps6
  go_wp2
  go_ret
  exact ⟨rfl, rfl⟩

theorem sp26 (w : World) : Calls Try.prog 6 #[.int .u8 26] w fun e w' => e = .returned (.string ⟨#[60, 60, 61]⟩) ∧ w' = w := by
  go_enter Try.func6, Try.ntmps6
  go_wp2
  go_ret
  exact ⟨rfl, rfl⟩

theorem sp27 (w : World) : Calls Try.prog 6 #[.int .u8 27] w fun e w' => e = .returned (.string ⟨#[62, 62, 61]⟩) ∧ w' = w := by
  go_enter Try.func6, Try.ntmps6
  go_wp2
  go_ret
  exact ⟨rfl, rfl⟩

theorem sp28 (w : World) : Calls Try.prog 6 #[.int .u8 28] w fun e w' => e = .returned (.string ⟨#[38, 94, 61]⟩) ∧ w' = w := by
  go_enter Try.func6, Try.ntmps6
  go_wp2
  go_ret
  exact ⟨rfl, rfl⟩

theorem sp29 (w : World) : Calls Try.prog 6 #[.int .u8 29] w fun e w' => e = .returned (.string ⟨#[38, 38]⟩) ∧ w' = w := by
  go_enter Try.func6, Try.ntmps6
  go_wp2
  go_ret
  exact ⟨rfl, rfl⟩

theorem sp30 (w : World) : Calls Try.prog 6 #[.int .u8 30] w fun e w' => e = .returned (.string ⟨#[124, 124]⟩) ∧ w' = w := by
  go_enter Try.func6, Try.ntmps6
  go_wp2
  go_ret
  exact ⟨rfl, rfl⟩

theorem sp31 (w : World) : Calls Try.prog 6 #[.int .u8 31] w fun e w' => e = .returned (.string ⟨#[60, 45]⟩) ∧ w' = w := by
  go_enter Try.func6, Try.ntmps6
  go_wp2
  go_ret
  exact ⟨rfl, rfl⟩

theorem sp32 (w : World) : Calls Try.prog 6 #[.int .u8 32] w fun e w' => e = .returned (.string ⟨#[43, 43]⟩) ∧ w' = w := by
  go_enter Try.func6, Try.ntmps6
  go_wp2
  go_ret
  exact ⟨rfl, rfl⟩

theorem sp33 (w : World) : Calls Try.prog 6 #[.int .u8 33] w fun e w' => e = .returned (.string ⟨#[45, 45]⟩) ∧ w' = w := by
  go_enter Try.func6, Try.ntmps6
  go_wp2
  go_ret
  exact ⟨rfl, rfl⟩

theorem sp34 (w : World) : Calls Try.prog 6 #[.int .u8 34] w fun e w' => e = .returned (.string ⟨#[61, 61]⟩) ∧ w' = w := by
  go_enter Try.func6, Try.ntmps6
  go_wp2
  go_ret
  exact ⟨rfl, rfl⟩

theorem sp35 (w : World) : Calls Try.prog 6 #[.int .u8 35] w fun e w' => e = .returned (.string ⟨#[33, 61]⟩) ∧ w' = w := by
  go_enter Try.func6, Try.ntmps6
  go_wp2
  go_ret
  exact ⟨rfl, rfl⟩

theorem sp36 (w : World) : Calls Try.prog 6 #[.int .u8 36] w fun e w' => e = .returned (.string ⟨#[60]⟩) ∧ w' = w := by
  go_enter Try.func6, Try.ntmps6
  go_wp2
  go_ret
  exact ⟨rfl, rfl⟩

theorem sp37 (w : World) : Calls Try.prog 6 #[.int .u8 37] w fun e w' => e = .returned (.string ⟨#[60, 61]⟩) ∧ w' = w := by
  go_enter Try.func6, Try.ntmps6
  go_wp2
  go_ret
  exact ⟨rfl, rfl⟩

theorem sp38 (w : World) : Calls Try.prog 6 #[.int .u8 38] w fun e w' => e = .returned (.string ⟨#[62]⟩) ∧ w' = w := by
  go_enter Try.func6, Try.ntmps6
  go_wp2
  go_ret
  exact ⟨rfl, rfl⟩

theorem sp39 (w : World) : Calls Try.prog 6 #[.int .u8 39] w fun e w' => e = .returned (.string ⟨#[62, 61]⟩) ∧ w' = w := by
  go_enter Try.func6, Try.ntmps6
  go_wp2
  go_ret
  exact ⟨rfl, rfl⟩

theorem sp40 (w : World) : Calls Try.prog 6 #[.int .u8 40] w fun e w' => e = .returned (.string ⟨#[61]⟩) ∧ w' = w := by
  go_enter Try.func6, Try.ntmps6
  go_wp2
  go_ret
  exact ⟨rfl, rfl⟩

theorem sp41 (w : World) : Calls Try.prog 6 #[.int .u8 41] w fun e w' => e = .returned (.string ⟨#[58, 61]⟩) ∧ w' = w := by
  go_enter Try.func6, Try.ntmps6
  go_wp2
  go_ret
  exact ⟨rfl, rfl⟩

theorem sp42 (w : World) : Calls Try.prog 6 #[.int .u8 42] w fun e w' => e = .returned (.string ⟨#[33]⟩) ∧ w' = w := by
  go_enter Try.func6, Try.ntmps6
  go_wp2
  go_ret
  exact ⟨rfl, rfl⟩

theorem sp43 (w : World) : Calls Try.prog 6 #[.int .u8 43] w fun e w' => e = .returned (.string ⟨#[126]⟩) ∧ w' = w := by
  go_enter Try.func6, Try.ntmps6
  go_wp2
  go_ret
  exact ⟨rfl, rfl⟩

theorem sp44 (w : World) : Calls Try.prog 6 #[.int .u8 44] w fun e w' => e = .returned (.string ⟨#[46, 46, 46]⟩) ∧ w' = w := by
  go_enter Try.func6, Try.ntmps6
  go_wp2
  go_ret
  exact ⟨rfl, rfl⟩

theorem sp54 (w : World) : Calls Try.prog 6 #[.int .u8 54] w fun e w' => e = .returned (.string ⟨#[58]⟩) ∧ w' = w := by
  go_enter Try.func6, Try.ntmps6
  go_wp2
  go_ret
  exact ⟨rfl, rfl⟩

theorem spLow (a : Int) (h0 : 0 ≤ a) (h1 : a < 7) (w : World) : Calls Try.prog 6 #[.int .u8 a] w fun e w' => e = .returned (.string ⟨#[]⟩) ∧ w' = w := by
  go_enter Try.func6, Try.ntmps6
  go_wp2
  go_ret
  exact ⟨rfl, rfl⟩

theorem spMid (a : Int) (h0 : 44 < a) (h1 : a < 54) (w : World) : Calls Try.prog 6 #[.int .u8 a] w fun e w' => e = .returned (.string ⟨#[]⟩) ∧ w' = w := by
  go_enter Try.func6, Try.ntmps6
  go_wp2
  go_ret
  exact ⟨rfl, rfl⟩

theorem spHigh (a : Int) (h0 : 54 < a) (h1 : a ≤ 255) (w : World) : Calls Try.prog 6 #[.int .u8 a] w fun e w' => e = .returned (.string ⟨#[]⟩) ∧ w' = w := by
  go_enter Try.func6, Try.ntmps6
  go_wp2
  go_ret
  exact ⟨rfl, rfl⟩

/-! 'binaryOf' (function 7) at each string that the law hands it. -/

theorem b18 (w : World) : Calls Try.prog 7 #[.string ⟨#[43]⟩] w fun e w' => e = .returned (.tuple #[.int .u8 7, .bool true]) ∧ w' = w := by
  go_enter Try.func7, Try.ntmps7
  go_wp2
  go_ret2
  exact ⟨rfl, rfl⟩

theorem b19 (w : World) : Calls Try.prog 7 #[.string ⟨#[45]⟩] w fun e w' => e = .returned (.tuple #[.int .u8 8, .bool true]) ∧ w' = w := by
  go_enter Try.func7, Try.ntmps7
  go_wp2
  go_ret2
  exact ⟨rfl, rfl⟩

theorem b20 (w : World) : Calls Try.prog 7 #[.string ⟨#[42]⟩] w fun e w' => e = .returned (.tuple #[.int .u8 9, .bool true]) ∧ w' = w := by
  go_enter Try.func7, Try.ntmps7
  go_wp2
  go_ret2
  exact ⟨rfl, rfl⟩

theorem b21 (w : World) : Calls Try.prog 7 #[.string ⟨#[47]⟩] w fun e w' => e = .returned (.tuple #[.int .u8 10, .bool true]) ∧ w' = w := by
  go_enter Try.func7, Try.ntmps7
  go_wp2
  go_ret2
  exact ⟨rfl, rfl⟩

theorem b22 (w : World) : Calls Try.prog 7 #[.string ⟨#[37]⟩] w fun e w' => e = .returned (.tuple #[.int .u8 11, .bool true]) ∧ w' = w := by
  go_enter Try.func7, Try.ntmps7
  go_wp2
  go_ret2
  exact ⟨rfl, rfl⟩

theorem b23 (w : World) : Calls Try.prog 7 #[.string ⟨#[38]⟩] w fun e w' => e = .returned (.tuple #[.int .u8 12, .bool true]) ∧ w' = w := by
  go_enter Try.func7, Try.ntmps7
  go_wp2
  go_ret2
  exact ⟨rfl, rfl⟩

theorem b24 (w : World) : Calls Try.prog 7 #[.string ⟨#[124]⟩] w fun e w' => e = .returned (.tuple #[.int .u8 13, .bool true]) ∧ w' = w := by
  go_enter Try.func7, Try.ntmps7
  go_wp2
  go_ret2
  exact ⟨rfl, rfl⟩

theorem b25 (w : World) : Calls Try.prog 7 #[.string ⟨#[94]⟩] w fun e w' => e = .returned (.tuple #[.int .u8 14, .bool true]) ∧ w' = w := by
  go_enter Try.func7, Try.ntmps7
  go_wp2
  go_ret2
  exact ⟨rfl, rfl⟩

theorem b26 (w : World) : Calls Try.prog 7 #[.string ⟨#[60, 60]⟩] w fun e w' => e = .returned (.tuple #[.int .u8 15, .bool true]) ∧ w' = w := by
  go_enter Try.func7, Try.ntmps7
  go_wp2
  go_ret2
  exact ⟨rfl, rfl⟩

theorem b27 (w : World) : Calls Try.prog 7 #[.string ⟨#[62, 62]⟩] w fun e w' => e = .returned (.tuple #[.int .u8 16, .bool true]) ∧ w' = w := by
  go_enter Try.func7, Try.ntmps7
  go_wp2
  go_ret2
  exact ⟨rfl, rfl⟩

theorem b28 (w : World) : Calls Try.prog 7 #[.string ⟨#[38, 94]⟩] w fun e w' => e = .returned (.tuple #[.int .u8 17, .bool true]) ∧ w' = w := by
  go_enter Try.func7, Try.ntmps7
  go_wp2
  go_ret2
  exact ⟨rfl, rfl⟩

theorem b34 (w : World) : Calls Try.prog 7 #[.string ⟨#[61]⟩] w fun e w' => e = .returned (.tuple #[.int .u8 0, .bool false]) ∧ w' = w := by
  go_enter Try.func7, Try.ntmps7
  go_wp2
  go_ret2
  exact ⟨rfl, rfl⟩

theorem b35 (w : World) : Calls Try.prog 7 #[.string ⟨#[33]⟩] w fun e w' => e = .returned (.tuple #[.int .u8 0, .bool false]) ∧ w' = w := by
  go_enter Try.func7, Try.ntmps7
  go_wp2
  go_ret2
  exact ⟨rfl, rfl⟩

theorem b37 (w : World) : Calls Try.prog 7 #[.string ⟨#[60]⟩] w fun e w' => e = .returned (.tuple #[.int .u8 0, .bool false]) ∧ w' = w := by
  go_enter Try.func7, Try.ntmps7
  go_wp2
  go_ret2
  exact ⟨rfl, rfl⟩

theorem b39 (w : World) : Calls Try.prog 7 #[.string ⟨#[62]⟩] w fun e w' => e = .returned (.tuple #[.int .u8 0, .bool false]) ∧ w' = w := by
  go_enter Try.func7, Try.ntmps7
  go_wp2
  go_ret2
  exact ⟨rfl, rfl⟩

theorem b41 (w : World) : Calls Try.prog 7 #[.string ⟨#[58]⟩] w fun e w' => e = .returned (.tuple #[.int .u8 0, .bool false]) ∧ w' = w := by
  go_enter Try.func7, Try.ntmps7
  go_wp2
  go_ret2
  exact ⟨rfl, rfl⟩

end Go.Proofs.Qxb6626231a.Spell
