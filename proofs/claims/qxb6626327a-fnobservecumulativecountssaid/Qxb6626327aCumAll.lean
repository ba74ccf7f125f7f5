import Derived.Test.Qxb6626327aCum
namespace Go.Proofs.Qxb6626327a.CumAll
open Go.RowKit Plain Mem Small
set_option linter.unusedVariables false

set_option maxRecDepth 100000 in
set_option maxHeartbeats 4000000 in
theorem cum_out (A B Z : Option Addr) (nb nc nz bc cc zc s : Nat) (w : World)
    (h : (65536 : Int) < (nb : Int) ∨ (¬ (65536 : Int) < (nb : Int) ∧ (65536 : Int) < (nc : Int)) ∨ (¬ (65536 : Int) < (nb : Int) ∧ ¬ (65536 : Int) < (nc : Int) ∧ (65536 : Int) < (nz : Int)) ∨ (¬ (65536 : Int) < (nb : Int) ∧ ¬ (65536 : Int) < (nc : Int) ∧ ¬ (65536 : Int) < (nz : Int) ∧ (1048576 : Int) < 8 * ((nb : Int) + (nc : Int) + (nz : Int)))) :
    Calls Try.prog 3 #[.slice A nb bc, .slice B nc cc, .float .f64 s, .slice Z nz zc] w fun e w' => e = .returned (.bool true) ∧ Below w.heap.size w w' := by
  rcases h with h1 | ⟨h1, h2⟩ | ⟨h1, h2, h3⟩ | ⟨h1, h2, h3, h4⟩
  all_goals
    go_enter Try.func3, Try.ntmps3
    go_wp2_with fail
    refine (Small.zz5_any _ _ _ _ _ _ _ _ _ _ _).mono ?_
    rintro e w' ⟨rfl, r, rfl, -⟩
    cases r
    all_goals
      go_wp2
      go_ret
      exact ⟨rfl, Below.refl _ _⟩

set_option maxRecDepth 100000 in
set_option maxHeartbeats 4000000 in
theorem cum_ill (A B Z : Option Addr) (bs : List Nat) (nc nz bc cc zc s : Nat) (w : World) (hA : Vals w A bs.length (fl bs))
    (t1 : ¬ (65536 : Int) < (bs.length : Int)) (t2 : ¬ (65536 : Int) < (nc : Int)) (t3 : ¬ (65536 : Int) < (nz : Int)) (t4 : ¬ (1048576 : Int) < 8 * ((bs.length : Int) + (nc : Int) + (nz : Int))) (hnc : nc ≠ bs.length + 1) :
    Calls Try.prog 3 #[.slice A bs.length bc, .slice B nc cc, .float .f64 s, .slice Z nz zc] w fun e w' => e = .returned (.bool true) ∧ Below w.heap.size w w' := by
  have HA : Hid (Vals w A bs.length (fl bs)) := hA
  have HN : Hid (bs.length ≤ 65536 ∧ nc ≤ 65536 ∧ nc ≠ bs.length + 1) := ⟨by omega, by omega, hnc⟩
  clear hA hnc
  go_enter Try.func3, Try.ntmps3
  go_wp2_with fail
  refine (Small.zz5_any _ _ _ _ _ _ _ _ _ _ _).mono ?_
  rintro e w' ⟨rfl, r, rfl, -⟩
  cases r
  · go_wp2
    go_ret
    exact ⟨rfl, Below.refl _ _⟩
  go_wp2_with fail
  refine (Small.wf_any _ _ bs _ _ _ _ HA.out (by have := HN.out; omega) (by have := HN.out; omega)).mono ?_
  rintro e w' ⟨⟨d0, rfl⟩, r, rfl, hr⟩
  cases r
  · go_wp2
    go_ret
    exact ⟨rfl, belowN _ _ _⟩
  · exact absurd (hr rfl).1 HN.out.2.2

theorem cum_any (A C Z : Option Addr) (bs zs : List Nat) (U : Nat → Int) (nc bc cc zc s : Nat) (w : World)
    (hA : Vals w A bs.length (fl bs)) (hC : Vals w C nc (un U)) (hZ : Vals w Z zs.length (fl zs)) (hUB : ∀ j, j < nc → 0 ≤ U j ∧ U j ≤ 18446744073709551615) :
    Calls Try.prog 3 #[.slice A bs.length bc, .slice C nc cc, .float .f64 s, .slice Z zs.length zc] w fun e w' => e = .returned (.bool true) ∧ Below w.heap.size w w' := by
  by_cases t1 : (65536 : Int) < (bs.length : Int)
  · exact cum_out _ _ _ _ _ _ _ _ _ _ _ (Or.inl t1)
  by_cases t2 : (65536 : Int) < (nc : Int)
  · exact cum_out _ _ _ _ _ _ _ _ _ _ _ (Or.inr (Or.inl ⟨t1, t2⟩))
  by_cases t3 : (65536 : Int) < (zs.length : Int)
  · exact cum_out _ _ _ _ _ _ _ _ _ _ _ (Or.inr (Or.inr (Or.inl ⟨t1, t2, t3⟩)))
  by_cases t4 : (1048576 : Int) < 8 * ((bs.length : Int) + (nc : Int) + (zs.length : Int))
  · exact cum_out _ _ _ _ _ _ _ _ _ _ _ (Or.inr (Or.inr (Or.inr ⟨t1, t2, t3, t4⟩)))
  by_cases hnc : nc = bs.length + 1
  · exact Cum.cum_in A C Z bs zs U bc cc zc s nc hnc w hA hC hZ hUB (by omega) (by omega) (by omega)
  · exact cum_ill A C Z bs nc zs.length bc cc zc s w hA t1 t2 t3 t4 hnc

end Go.Proofs.Qxb6626327a.CumAll
