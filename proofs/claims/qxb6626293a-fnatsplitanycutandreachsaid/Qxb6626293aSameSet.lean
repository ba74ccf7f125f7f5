import Derived.Test.Qxb6626293aSame
namespace Go.Proofs.Qxb6626293a.SameSet
open Go.RowKit Mem Same
set_option linter.unusedVariables false

/-- Are two member sets one, field by field? -/
def sameS (s t : MSet) : Bool := decide (s.frm = t.frm) && decide (s.idx = t.idx) && decide (s.win = t.win) && sameB s.mem t.mem && sameB s.val t.val

theorem sameS_self (s : MSet) : sameS s s = true := by simp [sameS, sameB]

set_option maxHeartbeats 1000000 in
theorem sameIn_any (s t : MSet) (A B A' B' : Option Addr) (c d c' d' : Nat) (w : World) (hs : Lies w s A B) (ht : Lies w t A' B') :
    Calls Try.prog 11 #[.agg #[.slice A s.mem.length c, .int .u64 s.frm, .int .u64 s.idx, .int .i64 s.win, .slice B s.val.length d], .agg #[.slice A' t.mem.length c', .int .u64 t.frm, .int .u64 t.idx, .int .i64 t.win, .slice B' t.val.length d']] w fun e w' => e = .returned (.bool (sameS s t)) ∧ Below w.heap.size w w' := by
  have HS : Hid (Lies w s A B) := hs
  have HT : Hid (Lies w t A' B') := ht
  clear hs ht
  by_cases h1 : s.frm = t.frm
  · have k1 : (s.frm == t.frm) = true := by simpa using h1
    have H1 : Hid (s.frm = t.frm) := h1
    by_cases h2 : s.idx = t.idx
    · have k2 : (s.idx == t.idx) = true := by simpa using h2
      have H2 : Hid (s.idx = t.idx) := h2
      by_cases h3 : s.win = t.win
      · have k3 : (s.win == t.win) = true := by simpa using h3
        have H3 : Hid (s.win = t.win) := h3
        by_cases h4 : sameB s.mem t.mem = true
        · have hr : Hid (sameS s t = sameB s.val t.val) := by unfold Hid sameS; simp [h1, h2, h3, h4]
          clear h1 h2 h3
          go_enter Try.func11, Try.ntmps11
          go_wp2_with (first | (go_at_call 15; refine (sameInts_any A A' s.mem t.mem c c' _ ?_ ?_ ?_ ?_).mono ?_; (exact HS.out.1.later (((Below.refl _ _).alloc (Nat.le_refl _) _).alloc (by simp) _)); (exact HT.out.1.later (((Below.refl _ _).alloc (Nat.le_refl _) _).alloc (by simp) _)); (exact HS.out.2.2.1); (exact HT.out.2.2.1); rintro e w' ⟨rfl, n, rfl⟩) | (go_at_call 16; refine (sameBytes_any B B' s.val t.val d d' _ ?_ ?_ ?_ ?_).mono ?_; (exact HS.out.2.1.later ((((Below.refl _ _).alloc (Nat.le_refl _) _).alloc (by simp) _).trans (belowN _ _ _))); (exact HT.out.2.1.later ((((Below.refl _ _).alloc (Nat.le_refl _) _).alloc (by simp) _).trans (belowN _ _ _))); (exact HS.out.2.2.2); (exact HT.out.2.2.2); rintro e w' ⟨rfl, n2, rfl⟩))
          go_ret
          exact ⟨by rw [hr.out]; rfl, (((Below.refl _ _).alloc (Nat.le_refl _) _).alloc (by simp) _).trans (belowN _ _ _)⟩
        · have h4 : sameB s.mem t.mem = false := by simpa using h4
          have hr : Hid (sameS s t = false) := by unfold Hid sameS; simp [h4]
          clear h1 h2 h3
          go_enter Try.func11, Try.ntmps11
          go_wp2_with (first | (go_at_call 15; refine (sameInts_any A A' s.mem t.mem c c' _ ?_ ?_ ?_ ?_).mono ?_; (exact HS.out.1.later (((Below.refl _ _).alloc (Nat.le_refl _) _).alloc (by simp) _)); (exact HT.out.1.later (((Below.refl _ _).alloc (Nat.le_refl _) _).alloc (by simp) _)); (exact HS.out.2.2.1); (exact HT.out.2.2.1); rintro e w' ⟨rfl, n, rfl⟩) | (go_at_call 16; refine (sameBytes_any B B' s.val t.val d d' _ ?_ ?_ ?_ ?_).mono ?_; (exact HS.out.2.1.later ((((Below.refl _ _).alloc (Nat.le_refl _) _).alloc (by simp) _).trans (belowN _ _ _))); (exact HT.out.2.1.later ((((Below.refl _ _).alloc (Nat.le_refl _) _).alloc (by simp) _).trans (belowN _ _ _))); (exact HS.out.2.2.2); (exact HT.out.2.2.2); rintro e w' ⟨rfl, n2, rfl⟩))
          go_ret
          exact ⟨by rw [hr.out]; rfl, (((Below.refl _ _).alloc (Nat.le_refl _) _).alloc (by simp) _).trans (belowN _ _ _)⟩
      · have k3 : (s.win == t.win) = false := by simpa using h3
        have hr : Hid (sameS s t = false) := by unfold Hid sameS; simp [h3]
        clear h1 h2 h3
        go_enter Try.func11, Try.ntmps11
        go_wp2
        go_ret
        exact ⟨by rw [hr.out]; rfl, ((Below.refl _ _).alloc (Nat.le_refl _) _).alloc (by simp) _⟩
    · have k2 : (s.idx == t.idx) = false := by simpa using h2
      have hr : Hid (sameS s t = false) := by unfold Hid sameS; simp [h2]
      clear h1 h2
      go_enter Try.func11, Try.ntmps11
      go_wp2
      go_ret
      exact ⟨by rw [hr.out]; rfl, ((Below.refl _ _).alloc (Nat.le_refl _) _).alloc (by simp) _⟩
  · have k1 : (s.frm == t.frm) = false := by simpa using h1
    have hr : Hid (sameS s t = false) := by unfold Hid sameS; simp [h1]
    clear h1
    go_enter Try.func11, Try.ntmps11
    go_wp2
    go_ret
    exact ⟨by rw [hr.out]; rfl, ((Below.refl _ _).alloc (Nat.le_refl _) _).alloc (by simp) _⟩

set_option maxHeartbeats 1000000 in
theorem sameMS_any (s t : MSet) (A B A' B' : Option Addr) (c d c' d' : Nat) (w : World) (hs : Lies w s A B) (ht : Lies w t A' B') :
    Calls Try.prog 9 #[.agg #[.slice A s.mem.length c, .int .u64 s.frm, .int .u64 s.idx, .int .i64 s.win, .slice B s.val.length d], .agg #[.slice A' t.mem.length c', .int .u64 t.frm, .int .u64 t.idx, .int .i64 t.win, .slice B' t.val.length d']] w fun e w' => e = .returned (.bool (sameS s t)) ∧ Below w.heap.size w w' := by
  have HS : Hid (Lies w s A B) := hs
  have HT : Hid (Lies w t A' B') := ht
  clear hs ht
  by_cases h1 : s.frm = t.frm
  · have k1 : (s.frm == t.frm) = true := by simpa using h1
    have H1 : Hid (s.frm = t.frm) := h1
    by_cases h2 : s.idx = t.idx
    · have k2 : (s.idx == t.idx) = true := by simpa using h2
      have H2 : Hid (s.idx = t.idx) := h2
      by_cases h3 : s.win = t.win
      · have k3 : (s.win == t.win) = true := by simpa using h3
        have H3 : Hid (s.win = t.win) := h3
        by_cases h4 : sameB s.mem t.mem = true
        · have hr : Hid (sameS s t = sameB s.val t.val) := by unfold Hid sameS; simp [h1, h2, h3, h4]
          clear h1 h2 h3
          go_enter Try.func9, Try.ntmps9
          go_wp2_with (first | (go_at_call 15; refine (sameInts_any A A' s.mem t.mem c c' _ ?_ ?_ ?_ ?_).mono ?_; (exact HS.out.1.later (((Below.refl _ _).alloc (Nat.le_refl _) _).alloc (by simp) _)); (exact HT.out.1.later (((Below.refl _ _).alloc (Nat.le_refl _) _).alloc (by simp) _)); (exact HS.out.2.2.1); (exact HT.out.2.2.1); rintro e w' ⟨rfl, n, rfl⟩) | (go_at_call 16; refine (sameBytes_any B B' s.val t.val d d' _ ?_ ?_ ?_ ?_).mono ?_; (exact HS.out.2.1.later ((((Below.refl _ _).alloc (Nat.le_refl _) _).alloc (by simp) _).trans (belowN _ _ _))); (exact HT.out.2.1.later ((((Below.refl _ _).alloc (Nat.le_refl _) _).alloc (by simp) _).trans (belowN _ _ _))); (exact HS.out.2.2.2); (exact HT.out.2.2.2); rintro e w' ⟨rfl, n2, rfl⟩))
          go_ret
          exact ⟨by rw [hr.out]; rfl, (((Below.refl _ _).alloc (Nat.le_refl _) _).alloc (by simp) _).trans (belowN _ _ _)⟩
        · have h4 : sameB s.mem t.mem = false := by simpa using h4
          have hr : Hid (sameS s t = false) := by unfold Hid sameS; simp [h4]
          clear h1 h2 h3
          go_enter Try.func9, Try.ntmps9
          go_wp2_with (first | (go_at_call 15; refine (sameInts_any A A' s.mem t.mem c c' _ ?_ ?_ ?_ ?_).mono ?_; (exact HS.out.1.later (((Below.refl _ _).alloc (Nat.le_refl _) _).alloc (by simp) _)); (exact HT.out.1.later (((Below.refl _ _).alloc (Nat.le_refl _) _).alloc (by simp) _)); (exact HS.out.2.2.1); (exact HT.out.2.2.1); rintro e w' ⟨rfl, n, rfl⟩) | (go_at_call 16; refine (sameBytes_any B B' s.val t.val d d' _ ?_ ?_ ?_ ?_).mono ?_; (exact HS.out.2.1.later ((((Below.refl _ _).alloc (Nat.le_refl _) _).alloc (by simp) _).trans (belowN _ _ _))); (exact HT.out.2.1.later ((((Below.refl _ _).alloc (Nat.le_refl _) _).alloc (by simp) _).trans (belowN _ _ _))); (exact HS.out.2.2.2); (exact HT.out.2.2.2); rintro e w' ⟨rfl, n2, rfl⟩))
          go_ret
          exact ⟨by rw [hr.out]; rfl, (((Below.refl _ _).alloc (Nat.le_refl _) _).alloc (by simp) _).trans (belowN _ _ _)⟩
      · have k3 : (s.win == t.win) = false := by simpa using h3
        have hr : Hid (sameS s t = false) := by unfold Hid sameS; simp [h3]
        clear h1 h2 h3
        go_enter Try.func9, Try.ntmps9
        go_wp2
        go_ret
        exact ⟨by rw [hr.out]; rfl, ((Below.refl _ _).alloc (Nat.le_refl _) _).alloc (by simp) _⟩
    · have k2 : (s.idx == t.idx) = false := by simpa using h2
      have hr : Hid (sameS s t = false) := by unfold Hid sameS; simp [h2]
      clear h1 h2
      go_enter Try.func9, Try.ntmps9
      go_wp2
      go_ret
      exact ⟨by rw [hr.out]; rfl, ((Below.refl _ _).alloc (Nat.le_refl _) _).alloc (by simp) _⟩
  · have k1 : (s.frm == t.frm) = false := by simpa using h1
    have hr : Hid (sameS s t = false) := by unfold Hid sameS; simp [h1]
    clear h1
    go_enter Try.func9, Try.ntmps9
    go_wp2
    go_ret
    exact ⟨by rw [hr.out]; rfl, ((Below.refl _ _).alloc (Nat.le_refl _) _).alloc (by simp) _⟩

theorem sameIn_self (s : MSet) (A B A' B' : Option Addr) (c d c' d' : Nat) (w : World) (hs : Lies w s A B) (ht : Lies w s A' B') :
    Calls Try.prog 11 #[.agg #[.slice A s.mem.length c, .int .u64 s.frm, .int .u64 s.idx, .int .i64 s.win, .slice B s.val.length d], .agg #[.slice A' s.mem.length c', .int .u64 s.frm, .int .u64 s.idx, .int .i64 s.win, .slice B' s.val.length d']] w fun e w' => e = .returned (.bool true) ∧ Below w.heap.size w w' := by
  have h := sameIn_any s s A B A' B' c d c' d' w hs ht
  rwa [sameS_self] at h

theorem sameMS_self (s : MSet) (A B A' B' : Option Addr) (c d c' d' : Nat) (w : World) (hs : Lies w s A B) (ht : Lies w s A' B') :
    Calls Try.prog 9 #[.agg #[.slice A s.mem.length c, .int .u64 s.frm, .int .u64 s.idx, .int .i64 s.win, .slice B s.val.length d], .agg #[.slice A' s.mem.length c', .int .u64 s.frm, .int .u64 s.idx, .int .i64 s.win, .slice B' s.val.length d']] w fun e w' => e = .returned (.bool true) ∧ Below w.heap.size w w' := by
  have h := sameMS_any s s A B A' B' c d c' d' w hs ht
  rwa [sameS_self] at h

/-- The zero set: 'isZeroMS' says so. -/
theorem isZero_any (w : World) :
    Calls Try.prog 10 #[.agg #[.slice none 0 0, .int .u64 0, .int .u64 0, .int .i64 0, .slice none 0 0]] w fun e w' => e = .returned (.bool true) ∧ Below w.heap.size w w' := by
  have q : ∀ (w : World) (a : Option Addr) (n c n' c' : Nat), (binOp .eql 29 (.slice a n c) (.slice none n' c')).run Try.prog w = .ok (.bool a.isNone) w := fun w a n c n' c' => Lib.run_eql_slice_nil w _ _ a n c n' c' Try.underlying29
  have q2 : ∀ (w : World) (a : Option Addr) (n c n' c' : Nat), (binOp .eql 30 (.slice a n c) (.slice none n' c')).run Try.prog w = .ok (.bool a.isNone) w := fun w a n c n' c' => Lib.run_eql_slice_nil w _ _ a n c n' c' Try.underlying30
  go_enter Try.func10, Try.ntmps10
  go_wp2
  go_ret
  exact ⟨rfl, (Below.refl _ _).alloc (Nat.le_refl _) _⟩

end Go.Proofs.Qxb6626293a.SameSet
