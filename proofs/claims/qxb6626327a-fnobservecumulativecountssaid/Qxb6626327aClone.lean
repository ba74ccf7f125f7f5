import Derived.Test.Qxb6626327aRows
import Derived.Test.Qxb6626327aMem
import Derived.WalkLawsBesides
import Derived.Lib.SliceRun
import Derived.ProofKit
namespace Go.Proofs.Qxb6626327a.Clone
open Go.RowKit Plain Mem
set_option linter.unusedVariables false
attribute [local go_sem] run_store_float

theorem info24 : (Try.prog.info? 24).map (fun i => (i.zero, i.size, i.bytes)) = some (some (.float .f64 0), 1, 8) := by kernel_rfl

set_option maxHeartbeats 1000000 in
theorem cloneF_some (a : Addr) (bs : List Nat) (n cap : Nat) (w : World) (hz : Vals w (some a) n (fl bs)) (hn : n ≤ 1048576) :
    Calls Try.prog 7 #[.slice (some a) n cap] w fun e w' => e = .returned (.slice (some ⟨w.heap.size, 0, none⟩) n n) ∧ w'.rowIs w.heap.size 24 n (fl bs) ∧ Below w.heap.size w w' := by
  have q : ∀ (w : World) (a : Option Addr) (n c n' c' : Nat), (binOp .eql 22 (.slice a n c) (.slice none n' c')).run Try.prog w = .ok (.bool a.isNone) w := fun w a n c n' c' => Lib.run_eql_slice_nil w _ _ a n c n' c' Try.underlying22
  have hmk := run_make_row' (P := Try.prog) 22 24 (.float .f64 0) 8 Try.underlying22 info24 rfl .i64 .i64 n (by omega) (by omega)
  have HZ : Hid (Vals w (some a) n (fl bs)) := hz
  clear hz
  go_enter Try.func7, Try.ntmps7
  go_wp2
  clear hmk q
  go_loopw [4] (fun i wr => ∃ m : Nat, m ≤ n ∧ i = .int .i64 m ∧ Below w.heap.size w wr ∧ wr.rowIs w.heap.size 24 n (fun j => if j < m then fl bs j else .float .f64 0)) (fun i _ => n - (intOf i).toNat)
  case atStart => exact ⟨0, Nat.zero_le _, rfl, (Below.refl _ _).alloc (Nat.le_refl _) _, (World.rowIs_made _ _ _ _).congr (fun i _ => by simp)⟩
  case round =>
    obtain ⟨m, hle, rfl, hbel, hrow⟩ := hrel
    by_cases hlt : m < n
    · obtain ⟨b, off, hA, hc⟩ := HZ.out.at (by omega)
      cases hA
      have hcell : wr.cell? ⟨b, off + m, none⟩ = some (.float .f64 (bs.getD m 0)) := by
        have h1 := hc m hlt
        rw [hbel.cell (World.block_lt_of_cell? _ _ h1)]
        exact h1
      have hold := hrow.cell hlt
      have hfr := hrow.frozen m
      have HB : Hid (Below w.heap.size w wr) := hbel
      have HRow : Hid (wr.rowIs w.heap.size 24 n (fun j => if j < m then fl bs j else .float .f64 0)) := hrow
      clear hc hbel hrow
      go_wp2
      go_roundw
      case rel => exact ⟨m + 1, hlt, by go_num, HB.out.setCell (Nat.le_refl _) _, (HRow.out.set m (.float .f64 (bs.getD m 0))).congr (fun j hj => by
          by_cases e : j = m
          · subst e; simp; rfl
          · by_cases e2 : j < m
            · simp [e, e2, show j < m + 1 by omega]
            · simp [e, e2, show ¬ j < m + 1 by omega])⟩
      case measure => simp [intOf]; omega
    · go_wp2
      go_ret
      have hnn : m = n := by omega
      subst hnn
      exact ⟨rfl, hrow.congr (fun j hj => by simp [hj]), hbel⟩

theorem cloneF_any (A : Option Addr) (bs : List Nat) (n cap : Nat) (w : World) (hz : Vals w A n (fl bs)) (hn : n ≤ 1048576) :
    Calls Try.prog 7 #[.slice A n cap] w fun e w' => ∃ A' cap', e = .returned (.slice A' n cap') ∧ Vals w' A' n (fl bs) ∧ Below w.heap.size w w' ∧ n ≤ cap' ∧ (∀ a, A' = some a → w.heap.size ≤ a.block ∧ a.block < w'.heap.size) := by
  cases A with
  | some a =>
    refine (cloneF_some a bs n cap w hz hn).mono ?_
    rintro e w' ⟨rfl, hrow, hb⟩
    exact ⟨_, n, rfl, vals_of_row hrow, hb, Nat.le_refl _, fun a h => by cases h; exact ⟨Nat.le_refl _, hrow.lt⟩⟩
  | none =>
    have hz0 : n = 0 := by
      rcases hz with h | ⟨b, off, hA, _⟩
      · exact h
      · cases hA
    subst hz0
    have q : ∀ (w : World) (a : Option Addr) (n c n' c' : Nat), (binOp .eql 22 (.slice a n c) (.slice none n' c')).run Try.prog w = .ok (.bool a.isNone) w := fun w a n c n' c' => Lib.run_eql_slice_nil w _ _ a n c n' c' Try.underlying22
    go_enter Try.func7, Try.ntmps7
    go_wp2
    go_ret
    exact ⟨none, 0, rfl, Or.inl rfl, Below.refl _ _, Nat.le_refl _, fun a h => by cases h⟩

theorem info33 : (Try.prog.info? 33).map (fun i => (i.zero, i.size, i.bytes)) = some (some (.int .u64 0), 1, 8) := by kernel_rfl

set_option maxHeartbeats 1000000 in
theorem cloneU_some (a : Addr) (C : Nat → Int) (n cap : Nat) (w : World) (hz : Vals w (some a) n (un C)) (hn : n ≤ 1048576) :
    Calls Try.prog 8 #[.slice (some a) n cap] w fun e w' => e = .returned (.slice (some ⟨w.heap.size, 0, none⟩) n n) ∧ w'.rowIs w.heap.size 33 n (un C) ∧ Below w.heap.size w w' := by
  have q : ∀ (w : World) (a : Option Addr) (n c n' c' : Nat), (binOp .eql 23 (.slice a n c) (.slice none n' c')).run Try.prog w = .ok (.bool a.isNone) w := fun w a n c n' c' => Lib.run_eql_slice_nil w _ _ a n c n' c' Try.underlying23
  have hmk := run_make_row' (P := Try.prog) 23 33 (.int .u64 0) 8 Try.underlying23 info33 rfl .i64 .i64 n (by omega) (by omega)
  have HZ : Hid (Vals w (some a) n (un C)) := hz
  clear hz
  go_enter Try.func8, Try.ntmps8
  go_wp2
  clear hmk q
  go_loopw [4] (fun i wr => ∃ m : Nat, m ≤ n ∧ i = .int .i64 m ∧ Below w.heap.size w wr ∧ wr.rowIs w.heap.size 33 n (fun j => if j < m then un C j else .int .u64 0)) (fun i _ => n - (intOf i).toNat)
  case atStart => exact ⟨0, Nat.zero_le _, rfl, (Below.refl _ _).alloc (Nat.le_refl _) _, (World.rowIs_made _ _ _ _).congr (fun i _ => by simp)⟩
  case round =>
    obtain ⟨m, hle, rfl, hbel, hrow⟩ := hrel
    by_cases hlt : m < n
    · obtain ⟨b, off, hA, hc⟩ := HZ.out.at (by omega)
      cases hA
      have hcell : wr.cell? ⟨b, off + m, none⟩ = some (.int .u64 (C m)) := by
        have h1 := hc m hlt
        rw [hbel.cell (World.block_lt_of_cell? _ _ h1)]
        exact h1
      have hold := hrow.cell hlt
      have hfr := hrow.frozen m
      have HB : Hid (Below w.heap.size w wr) := hbel
      have HRow : Hid (wr.rowIs w.heap.size 33 n (fun j => if j < m then un C j else .int .u64 0)) := hrow
      clear hc hbel hrow
      go_wp2
      go_roundw
      case rel => exact ⟨m + 1, hlt, by go_num, HB.out.setCell (Nat.le_refl _) _, (HRow.out.set m (.int .u64 (C m))).congr (fun j hj => by
          by_cases e : j = m
          · subst e; simp; rfl
          · by_cases e2 : j < m
            · simp [e, e2, show j < m + 1 by omega]
            · simp [e, e2, show ¬ j < m + 1 by omega])⟩
      case measure => simp [intOf]; omega
    · go_wp2
      go_ret
      have hnn : m = n := by omega
      subst hnn
      exact ⟨rfl, hrow.congr (fun j hj => by simp [hj]), hbel⟩

theorem cloneU_any (A : Option Addr) (C : Nat → Int) (n cap : Nat) (w : World) (hz : Vals w A n (un C)) (hn : n ≤ 1048576) :
    Calls Try.prog 8 #[.slice A n cap] w fun e w' => ∃ A' cap', e = .returned (.slice A' n cap') ∧ Vals w' A' n (un C) ∧ Below w.heap.size w w' ∧ n ≤ cap' ∧ (∀ a, A' = some a → w.heap.size ≤ a.block ∧ a.block < w'.heap.size) := by
  cases A with
  | some a =>
    refine (cloneU_some a C n cap w hz hn).mono ?_
    rintro e w' ⟨rfl, hrow, hb⟩
    exact ⟨_, n, rfl, vals_of_row hrow, hb, Nat.le_refl _, fun a h => by cases h; exact ⟨Nat.le_refl _, hrow.lt⟩⟩
  | none =>
    have hz0 : n = 0 := by
      rcases hz with h | ⟨b, off, hA, _⟩
      · exact h
      · cases hA
    subst hz0
    have q : ∀ (w : World) (a : Option Addr) (n c n' c' : Nat), (binOp .eql 23 (.slice a n c) (.slice none n' c')).run Try.prog w = .ok (.bool a.isNone) w := fun w a n c n' c' => Lib.run_eql_slice_nil w _ _ a n c n' c' Try.underlying23
    go_enter Try.func8, Try.ntmps8
    go_wp2
    go_ret
    exact ⟨none, 0, rfl, Or.inl rfl, Below.refl _ _, Nat.le_refl _, fun a h => by cases h⟩

end Go.Proofs.Qxb6626327a.Clone
