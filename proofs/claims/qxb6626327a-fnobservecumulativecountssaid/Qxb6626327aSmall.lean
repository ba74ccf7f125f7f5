import Derived.Test.Qxb6626327aRows
import Derived.Test.Qxb6626327aMem
import Derived.WalkLawsBesides
import Derived.Laws.Cover2
import Derived.ProofKit
namespace Go.Proofs.Qxb6626327a.Small
open Go.RowKit Plain Mem
set_option linter.unusedVariables false
attribute [local go_sem] run_store_float

/-- A guard's answer: a bool, the world as it was; 'true' says p. -/
def Guarded (p : Prop) (w : World) (e : Ending) (w' : World) : Prop := w = w' ∧ ∃ r, e = .returned (.bool r) ∧ (r = true → p)
theorem Guarded.no (p : Prop) (w : World) : Guarded p w (.returned (.bool false)) w := ⟨rfl, false, rfl, fun h => by cases h⟩
theorem Guarded.yes {p : Prop} (w : World) (h : p) : Guarded p w (.returned (.bool true)) w := ⟨rfl, true, rfl, fun _ => h⟩

set_option maxHeartbeats 1000000 in
theorem zz5_any (A B Z : Option Addr) (nb nc nz bc cc zc s : Nat) (w : World) :
    Calls Try.prog 5 #[.slice A nb bc, .slice B nc cc, .float .f64 s, .slice Z nz zc] w (Guarded True w) := by
  by_cases h1 : (1048576 : Int) < (nb : Int)
  · go_enter Try.func5, Try.ntmps5
    go_wp2
    go_ret
    exact Guarded.no _ _
  by_cases h2 : (1048576 : Int) < (nc : Int)
  · go_enter Try.func5, Try.ntmps5
    go_wp2
    go_ret
    exact Guarded.no _ _
  by_cases h3 : (1048576 : Int) < (nz : Int)
  · go_enter Try.func5, Try.ntmps5
    go_wp2
    all_goals
      go_ret
      exact Guarded.no _ _
  · go_enter Try.func5, Try.ntmps5
    go_wp2
    all_goals
      go_ret
      first | exact Guarded.no _ _ | exact Guarded.yes _ trivial

set_option maxHeartbeats 1000000 in
theorem zz17_any (A B Z : Option Addr) (nb nc nz bc cc zc s : Nat) (k : Int) (w : World) :
    Calls Try.prog 17 #[.slice A nb bc, .slice B nc cc, .float .f64 s, .slice Z nz zc, .int .i64 k] w (Guarded True w) := by
  by_cases h1 : (1048576 : Int) < (nb : Int)
  · go_enter Try.func17, Try.ntmps17
    go_wp2
    go_ret
    exact Guarded.no _ _
  by_cases h2 : (1048576 : Int) < (nc : Int)
  · go_enter Try.func17, Try.ntmps17
    go_wp2
    go_ret
    exact Guarded.no _ _
  by_cases h3 : (1048576 : Int) < (nz : Int)
  · go_enter Try.func17, Try.ntmps17
    go_wp2
    all_goals
      go_ret
      exact Guarded.no _ _
  · go_enter Try.func17, Try.ntmps17
    go_wp2
    all_goals
      go_ret
      first | exact Guarded.no _ _ | exact Guarded.yes _ trivial

/-! The three hands into a histogram, and its making -/
theorem new_any (A B : Option Addr) (nb bc nc cc s : Nat) (w : World) :
    Calls Try.prog 9 #[.slice A nb bc, .slice B nc cc, .float .f64 s] w fun e w' => e = .returned (.pointer (some ⟨w.heap.size, 0, none⟩)) ∧ w.alloc (.cells #[.slice A nb bc, .slice B nc cc, .float .f64 s] 41) = w' := by
  go_enter Try.func9, Try.ntmps9
  go_wp2
  go_ret
  exact ⟨rfl, rfl⟩

theorem counts_any {w : World} {hb cb : Nat} {BA : Option Addr} {bc : Nat} {bs : List Nat} {n : Nat} {C : Nat → Int} {s : Nat} (h : Hist w hb cb BA bc bs n C s) :
    Calls Try.prog 11 #[.pointer (some ⟨hb, 0, none⟩)] w fun e w' => e = .returned (.slice (some ⟨cb, 0, none⟩) n n) ∧ w = w' := by
  have c1 : w.cell? ⟨hb, 1, none⟩ = some (.slice (some ⟨cb, 0, none⟩) n n) := h.1.cell (i := 1) (by omega)
  clear h
  go_enter Try.func11, Try.ntmps11
  go_wp2
  go_ret
  exact ⟨rfl, rfl⟩

theorem sum_any {w : World} {hb cb : Nat} {BA : Option Addr} {bc : Nat} {bs : List Nat} {n : Nat} {C : Nat → Int} {s : Nat} (h : Hist w hb cb BA bc bs n C s) :
    Calls Try.prog 13 #[.pointer (some ⟨hb, 0, none⟩)] w fun e w' => e = .returned (.float .f64 s) ∧ w = w' := by
  have c1 : w.cell? ⟨hb, 2, none⟩ = some (.float .f64 s) := h.1.cell (i := 2) (by omega)
  clear h
  go_enter Try.func13, Try.ntmps13
  go_wp2
  go_ret
  exact ⟨rfl, rfl⟩

theorem bounds_any {w : World} {hb cb : Nat} {BA : Option Addr} {bc : Nat} {bs : List Nat} {n : Nat} {C : Nat → Int} {s : Nat} (h : Hist w hb cb BA bc bs n C s) :
    Calls Try.prog 16 #[.pointer (some ⟨hb, 0, none⟩)] w fun e w' => e = .returned (.slice BA bs.length bc) ∧ w = w' := by
  have c1 : w.cell? ⟨hb, 0, none⟩ = some (.slice BA bs.length bc) := h.1.cell (i := 0) (by omega)
  clear h
  go_enter Try.func16, Try.ntmps16
  go_wp2
  go_ret
  exact ⟨rfl, rfl⟩

/-- One number, or two NaNs: 'sameFloat' says true. -/
theorem same_any (a b : Nat) (h : Same a b) (w : World) : Calls Try.prog 12 #[.float .f64 a, .float .f64 b] w fun e w' => e = .returned (.bool true) ∧ w = w' := by
  have key : (FloatKind.f64.format.order a a = some .eq → FloatKind.f64.format.order a b = some .eq) ∧ (FloatKind.f64.format.order a a ≠ some .eq → FloatKind.f64.format.order b b ≠ some .eq) := by
    rcases h with rfl | ⟨n1, n2⟩
    · exact ⟨id, id⟩
    · refine ⟨fun h => ?_, fun _ => ?_⟩
      · rw [order_nan n1] at h; cases h
      · rw [order_nan n2]; simp
  by_cases ha : FloatKind.f64.format.order a a = some .eq
  · have hb := key.1 ha
    clear key h
    go_enter Try.func12, Try.ntmps12
    go_wp2
    go_ret
    exact ⟨rfl, rfl⟩
  · have hb : (FloatKind.f64.format.order b b != some .eq) = true := by simpa using key.2 ha
    have ha' : (FloatKind.f64.format.order a a != some .eq) = true := by simpa using ha
    clear key h ha
    go_enter Try.func12, Try.ntmps12
    go_wp2
    go_ret
    exact ⟨rfl, rfl⟩

/-! '+' on floats, both ways -/
theorem add_some {P : Program} (t : TypeId) {x y r : Nat} (h : FloatKind.f64.format.add x y = some r) (w : World) : (binOp .add t (.float .f64 x) (.float .f64 y)).run P w = .ok (.float .f64 r) w :=
  run_float_arith w .add t .f64 x y r h

theorem add_none {P : Program} (t : TypeId) {x y : Nat} (h : FloatKind.f64.format.add x y = none) (w : World) : (binOp .add t (.float .f64 x) (.float .f64 y)).run P w = .ok (.float .f64 (Question.cut (.nanBits .f64 x y) (w.tape w.drawn (.nanBits .f64 x y)))) w.drew := by
  simp [binOp, Op.floatArith, h, Question.forced]

set_option maxHeartbeats 1000000 in
theorem fold_any (s n : Nat) (A : Option Addr) (xs : List Nat) (cap : Nat) (w : World) (he : xs.length = n) (hz : Vals w A n (fl xs)) (hn : n ≤ 1048576) :
    Calls Try.prog 14 #[.float .f64 s, .slice A n cap] w fun e w' => ∃ r, e = .returned (.float .f64 r) ∧ Sums s xs r ∧ ∃ d, w' = w.drewN d := by
  have HZ : Hid (Vals w A n (fl xs)) := hz
  have HE : Hid (xs.length = n) := he
  clear hz he
  go_enter Try.func14, Try.ntmps14
  go_wp2
  go_loopw [0, 5] (fun a i wr => ∃ m r : Nat, m ≤ n ∧ i = .int .i64 m ∧ a = .float .f64 r ∧ Sums s (xs.take m) r ∧ ∃ d, wr = w.drewN d) (fun _ i _ => n - (intOf i).toNat)
  case atStart => exact ⟨0, s, Nat.zero_le _, rfl, rfl, rfl, 0, rfl⟩
  case round =>
    obtain ⟨m, r, hle, rfl, rfl, hs, d, rfl⟩ := hrel
    have HS : Hid (Sums s (xs.take m) r) := hs
    clear hs
    by_cases hlt : m < n
    · obtain ⟨b, off, rfl, hc⟩ := HZ.out.at (by omega)
      obtain ⟨x, hx⟩ : ∃ x, xs.getD m 0 = x := ⟨_, rfl⟩
      have g1 : w.cell? ⟨b, off + m, none⟩ = some (.float .f64 x) := by rw [← hx]; exact hc m hlt
      have HT : Hid (xs.take (m + 1) = xs.take m ++ [x]) := by
        have hm : m < xs.length := by rw [HE.out]; exact hlt
        unfold Hid
        rw [List.take_succ_eq_append_getElem hm, ← hx]
        simp [hm]
      clear hc hx
      cases ha : FloatKind.f64.format.add r x with
      | some v =>
        have hadd := fun w => add_some (P := Try.prog) 24 ha w
        have HF : Hid (FAdd r x v) := Or.inl ha
        clear ha
        go_wp2
        go_roundw
        case rel => exact ⟨m + 1, v, hlt, by go_num, rfl, by rw [HT.out]; exact sums_snoc _ _ _ _ _ HS.out HF.out, d, rfl⟩
        case measure => simp [intOf]; omega
      | none =>
        have hadd := fun w => add_none (P := Try.prog) 24 ha w
        have HF : Hid (∀ v, nan v → FAdd r x v) := fun v hv => Or.inr ⟨ha, hv⟩
        clear ha
        go_wp2
        go_roundw
        case rel => exact ⟨m + 1, _, hlt, by go_num, rfl, by rw [HT.out]; exact sums_snoc _ _ _ _ _ HS.out (HF.out _ (nan_cut _ _ _)), d + 1, rfl⟩
        case measure => simp [intOf]; omega
    · go_wp2
      go_ret
      refine ⟨r, rfl, ?_, d, rfl⟩
      have := HS.out
      rwa [List.take_of_length_le (by rw [HE.out]; omega)] at this

/-- What 'wellFormed' promises: a count more than there are bounds; no bound is a NaN; each is below the next. -/
def WF (bs : List Nat) (nc : Nat) : Prop :=
  nc = bs.length + 1 ∧ (∀ i, i < bs.length → FloatKind.f64.format.order (bs.getD i 0) (bs.getD i 0) = some .eq) ∧ ∀ i, i + 1 < bs.length → FloatKind.f64.format.order (bs.getD i 0) (bs.getD (i + 1) 0) = some .lt

/-- A guard's answer that may have drawn. -/
def GuardedN (p : Prop) (w : World) (e : Ending) (w' : World) : Prop := (∃ d, w' = w.drewN d) ∧ ∃ r, e = .returned (.bool r) ∧ (r = true → p)
theorem GuardedN.no (p : Prop) (w : World) (d : Nat) : GuardedN p w (.returned (.bool false)) (w.drewN d) := ⟨⟨d, rfl⟩, false, rfl, fun h => by cases h⟩
theorem GuardedN.yes {p : Prop} (w : World) (d : Nat) (h : p) : GuardedN p w (.returned (.bool true)) (w.drewN d) := ⟨⟨d, rfl⟩, true, rfl, fun _ => h⟩

set_option maxHeartbeats 1000000 in
theorem wf_any (A B : Option Addr) (bs : List Nat) (nc bc cc : Nat) (w : World) (hz : Vals w A bs.length (fl bs)) (hn : bs.length ≤ 1048576) (hm : nc ≤ 1048576) :
    Calls Try.prog 6 #[.slice A bs.length bc, .slice B nc cc] w (GuardedN (WF bs nc) w) := by
  have HZ : Hid (Vals w A bs.length (fl bs)) := hz
  clear hz
  by_cases hl : nc = bs.length + 1
  · subst hl
    go_enter Try.func6, Try.ntmps6
    go_wp2
    go_loopw [5] (fun i wr => ∃ m : Nat, m ≤ bs.length ∧ i = .int .i64 m ∧ (∃ d, wr = w.drewN d) ∧ (∀ j, j < m → FloatKind.f64.format.order (bs.getD j 0) (bs.getD j 0) = some .eq) ∧ ∀ j, j + 1 < m → FloatKind.f64.format.order (bs.getD j 0) (bs.getD (j + 1) 0) = some .lt) (fun i _ => bs.length - (intOf i).toNat)
    case atStart => exact ⟨0, Nat.zero_le _, rfl, ⟨0, rfl⟩, fun j hj => absurd hj (Nat.not_lt_zero _), fun j hj => absurd hj (Nat.not_lt_zero _)⟩
    case round =>
      obtain ⟨m, hle, rfl, ⟨d, rfl⟩, h1, h2⟩ := hrel
      have H1 : Hid (∀ j, j < m → FloatKind.f64.format.order (bs.getD j 0) (bs.getD j 0) = some .eq) := h1
      have H2 : Hid (∀ j, j + 1 < m → FloatKind.f64.format.order (bs.getD j 0) (bs.getD (j + 1) 0) = some .lt) := h2
      clear h1 h2
      by_cases hlt : m < bs.length
      · obtain ⟨b, off, rfl, hc⟩ := HZ.out.at (by omega)
        have b1 : ((m : Int)) < (bs.length : Int) := by omega
        have g1 := hc m hlt
        unfold fl at g1
        obtain ⟨x, hx⟩ : ∃ x, bs.getD m 0 = x := ⟨_, rfl⟩
        rw [hx] at g1
        have HX : Hid (bs.getD m 0 = x) := hx
        clear hx
        by_cases hnan : FloatKind.f64.format.order x x = some .eq
        · have hnan' : (FloatKind.f64.format.order x x != some .eq) = false := by simpa using hnan
          cases m with
          | zero =>
            clear hc
            simp only [Nat.add_zero] at g1
            go_wp2
            go_quiet (fail)
            go_wp2
            go_quiet (fail)
            go_wp2
            go_roundw
            case rel => exact ⟨1, by omega, rfl, ⟨_, rfl⟩, fun j hj => by
              have : j = 0 := by omega
              subst this; rw [HX.out]; exact hnan, fun j hj => by omega⟩
            case measure => simp [intOf]; omega
          | succ q =>
            have g2 := hc q (by omega)
            unfold fl at g2
            obtain ⟨y, hy⟩ : ∃ y, bs.getD q 0 = y := ⟨_, rfl⟩
            rw [hy] at g2
            have HY : Hid (bs.getD q 0 = y) := hy
            have b2 : ((q : Int)) < (bs.length : Int) := by omega
            have b3 : ((q : Int)) + 1 < (bs.length : Int) := by omega
            have b4 : (0 : Int) < (q : Int) + 1 := by omega
            have hw1 : IntKind.i64.wrap ((q : Int) + 1 - 1) = (q : Int) := by rw [IntKind.wrap_i64]; omega
            have hw2 : IntKind.i64.wrap (q : Int) = (q : Int) := by rw [IntKind.wrap_i64]; omega
            clear hc hy
            by_cases hlss : FloatKind.f64.format.order y x = some .lt
            · go_wp2
              go_quiet (fail)
              go_wp2
              go_quiet (fail)
              go_wp2
              go_roundw
              case rel => exact ⟨q + 1 + 1, by omega, by go_num, ⟨_, rfl⟩, fun j hj => by
                by_cases e : j = q + 1
                · subst e; rw [HX.out]; exact hnan
                · exact H1.out j (by omega), fun j hj => by
                by_cases e : j = q
                · subst e; rw [HX.out, HY.out]; exact hlss
                · exact H2.out j (by omega)⟩
              case measure => simp [intOf]; omega
            · have hlss' : (FloatKind.f64.format.order y x == some .lt) = false := by simpa using hlss
              clear hlss
              go_wp2
              go_quiet (fail)
              go_wp2
              go_quiet (fail)
              go_wp2
              go_ret
              simp only [World.drewN_drewN]
              exact GuardedN.no _ _ _
        · have hnan' : (FloatKind.f64.format.order x x != some .eq) = true := by simpa using hnan
          clear hnan hc
          go_wp2
          go_quiet (fail)
          go_wp2
          go_ret
          simp only [World.drewN_drewN]
          exact GuardedN.no _ _ _
      · go_wp2
        go_ret
        exact GuardedN.yes _ _ ⟨rfl, fun i hi => H1.out i (by omega), fun i hi => H2.out i (by omega)⟩
  · have hl' : ((nc : Int) == (bs.length : Int) + 1) = false := by simp; omega
    go_enter Try.func6, Try.ntmps6
    go_wp2
    go_ret
    exact GuardedN.no _ _ 0

end Go.Proofs.Qxb6626327a.Small
