import Derived.Test.Qxb6626293aRows
import Derived.Test.Qxb6626293aMem
import Derived.WalkLawsBesides
import Derived.Lib.SliceRun
import Derived.ProofKit
namespace Go.Proofs.Qxb6626293a.Copy
open Go.RowKit Mem
set_option linter.unusedVariables false

theorem info3 : (Try.prog.info? 3).map (fun i => (i.zero, i.size, i.bytes)) = some (some (.int .i64 0), 1, 8) := by kernel_rfl

set_option maxHeartbeats 1000000 in
theorem copyInts_any (A : Option Addr) (zs : List Int) (cap : Nat) (w : World) (hz : Ints w .i64 A zs) (hn : zs.length ≤ 1048576) :
    Calls Try.prog 13 #[.slice A zs.length cap] w fun e w' => ∃ A' cap', e = .returned (.slice A' zs.length cap') ∧ Ints w' .i64 A' zs ∧ Below w.heap.size w w' ∧ ∀ a, A' = some a → w.heap.size ≤ a.block := by
  have q : ∀ (w : World) (a : Option Addr) (n c n' c' : Nat), (binOp .eql 29 (.slice a n c) (.slice none n' c')).run Try.prog w = .ok (.bool a.isNone) w := fun w a n c n' c' => Lib.run_eql_slice_nil w _ _ a n c n' c' Try.underlying29
  cases A with
  | none =>
    have hz0 : zs = [] := by
      rcases hz with h | ⟨b, off, hA, _⟩
      · exact h
      · cases hA
    subst hz0
    go_enter Try.func13, Try.ntmps13
    go_wp2
    go_ret
    exact ⟨none, 0, rfl, Or.inl rfl, Below.refl _ _, fun a h => by cases h⟩
  | some a =>
    have hmk := run_make_row' (P := Try.prog) 29 3 (.int .i64 0) 8 Try.underlying29 info3 rfl .i64 .i64 zs.length (by omega) (by omega)
    have HZ : Hid (zs = [] ∨ ∃ b off, a = ⟨b, off, none⟩ ∧ ∀ i, i < zs.length → w.cell? ⟨b, off + i, none⟩ = some (.int .i64 (zs.getD i 0))) := by
      rcases hz with h | ⟨b, off, hA, hc⟩
      · exact Or.inl h
      · exact Or.inr ⟨b, off, Option.some.inj hA, hc⟩
    clear hz
    go_enter Try.func13, Try.ntmps13
    go_wp2
    clear hmk q
    go_loopw [4] (fun i wr => ∃ n : Nat, n ≤ zs.length ∧ i = .int .i64 n ∧ Below w.heap.size w wr ∧ wr.rowIs w.heap.size 3 zs.length (fun j => if j < n then .int .i64 (zs.getD j 0) else .int .i64 0)) (fun i _ => zs.length - (intOf i).toNat)
    case atStart => exact ⟨0, Nat.zero_le _, rfl, (Below.refl _ _).alloc (Nat.le_refl _) _, (World.rowIs_made _ _ _ _).congr (fun i _ => by simp)⟩
    case round =>
      obtain ⟨n, hle, rfl, hbel, hrow⟩ := hrel
      by_cases hlt : n < zs.length
      · rcases HZ.out with h | ⟨b, off, rfl, hc⟩
        · rw [h] at hlt; cases hlt
        have hcell : wr.cell? ⟨b, off + n, none⟩ = some (.int .i64 (zs.getD n 0)) := by
          have h1 := hc n hlt
          rw [hbel.cell (World.block_lt_of_cell? _ _ h1)]
          exact h1
        have hold := hrow.cell hlt
        have hfr := hrow.frozen n
        have HR := hrow
        have HB : Hid (Below w.heap.size w wr) := hbel
        clear hc hbel hrow
        have HRow : Hid (wr.rowIs w.heap.size 3 zs.length (fun j => if j < n then .int .i64 (zs.getD j 0) else .int .i64 0)) := HR
        clear HR
        go_wp2
        go_roundw
        case rel => exact ⟨n + 1, hlt, by go_num, HB.out.setCell (Nat.le_refl _) _, (HRow.out.set n _).congr (fun j hj => by
          by_cases e : j = n
          · subst e; simp [hj]
          · by_cases e2 : j < n
            · simp [e, e2, show j < n + 1 by omega]
            · simp [e, e2, show ¬ j < n + 1 by omega])⟩
        case measure => simp [intOf]; omega
      · go_wp2
        go_ret
        have hnn : n = zs.length := by omega
        subst hnn
        exact ⟨_, _, rfl, ints_of_row (hrow.congr (fun j hj => by simp [hj])), hbel, fun a h => by cases h; exact Nat.le_refl _⟩

theorem info5 : (Try.prog.info? 5).map (fun i => (i.zero, i.size, i.bytes)) = some (some (.int .u8 0), 1, 1) := by kernel_rfl

set_option maxHeartbeats 1000000 in
theorem copyBytes_any (A : Option Addr) (zs : List Int) (cap : Nat) (w : World) (hz : Ints w .u8 A zs) (hn : zs.length ≤ 1048576) :
    Calls Try.prog 14 #[.slice A zs.length cap] w fun e w' => ∃ A' cap', e = .returned (.slice A' zs.length cap') ∧ Ints w' .u8 A' zs ∧ Below w.heap.size w w' ∧ ∀ a, A' = some a → w.heap.size ≤ a.block := by
  have q : ∀ (w : World) (a : Option Addr) (n c n' c' : Nat), (binOp .eql 30 (.slice a n c) (.slice none n' c')).run Try.prog w = .ok (.bool a.isNone) w := fun w a n c n' c' => Lib.run_eql_slice_nil w _ _ a n c n' c' Try.underlying30
  cases A with
  | none =>
    have hz0 : zs = [] := by
      rcases hz with h | ⟨b, off, hA, _⟩
      · exact h
      · cases hA
    subst hz0
    go_enter Try.func14, Try.ntmps14
    go_wp2
    go_ret
    exact ⟨none, 0, rfl, Or.inl rfl, Below.refl _ _, fun a h => by cases h⟩
  | some a =>
    have hmk := run_make_row' (P := Try.prog) 30 5 (.int .u8 0) 1 Try.underlying30 info5 rfl .i64 .i64 zs.length (by omega) (by omega)
    have HZ : Hid (zs = [] ∨ ∃ b off, a = ⟨b, off, none⟩ ∧ ∀ i, i < zs.length → w.cell? ⟨b, off + i, none⟩ = some (.int .u8 (zs.getD i 0))) := by
      rcases hz with h | ⟨b, off, hA, hc⟩
      · exact Or.inl h
      · exact Or.inr ⟨b, off, Option.some.inj hA, hc⟩
    clear hz
    go_enter Try.func14, Try.ntmps14
    go_wp2
    clear hmk q
    go_loopw [4] (fun i wr => ∃ n : Nat, n ≤ zs.length ∧ i = .int .i64 n ∧ Below w.heap.size w wr ∧ wr.rowIs w.heap.size 5 zs.length (fun j => if j < n then .int .u8 (zs.getD j 0) else .int .u8 0)) (fun i _ => zs.length - (intOf i).toNat)
    case atStart => exact ⟨0, Nat.zero_le _, rfl, (Below.refl _ _).alloc (Nat.le_refl _) _, (World.rowIs_made _ _ _ _).congr (fun i _ => by simp)⟩
    case round =>
      obtain ⟨n, hle, rfl, hbel, hrow⟩ := hrel
      by_cases hlt : n < zs.length
      · rcases HZ.out with h | ⟨b, off, rfl, hc⟩
        · rw [h] at hlt; cases hlt
        have hcell : wr.cell? ⟨b, off + n, none⟩ = some (.int .u8 (zs.getD n 0)) := by
          have h1 := hc n hlt
          rw [hbel.cell (World.block_lt_of_cell? _ _ h1)]
          exact h1
        have hold := hrow.cell hlt
        have hfr := hrow.frozen n
        have HR := hrow
        have HB : Hid (Below w.heap.size w wr) := hbel
        clear hc hbel hrow
        have HRow : Hid (wr.rowIs w.heap.size 5 zs.length (fun j => if j < n then .int .u8 (zs.getD j 0) else .int .u8 0)) := HR
        clear HR
        go_wp2
        go_roundw
        case rel => exact ⟨n + 1, hlt, by go_num, HB.out.setCell (Nat.le_refl _) _, (HRow.out.set n _).congr (fun j hj => by
          by_cases e : j = n
          · subst e; simp [hj]
          · by_cases e2 : j < n
            · simp [e, e2, show j < n + 1 by omega]
            · simp [e, e2, show ¬ j < n + 1 by omega])⟩
        case measure => simp [intOf]; omega
      · go_wp2
        go_ret
        have hnn : n = zs.length := by omega
        subst hnn
        exact ⟨_, _, rfl, ints_of_row (hrow.congr (fun j hj => by simp [hj])), hbel, fun a h => by cases h; exact Nat.le_refl _⟩

end Go.Proofs.Qxb6626293a.Copy
