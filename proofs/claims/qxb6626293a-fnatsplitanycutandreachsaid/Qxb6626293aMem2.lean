/-
  The new membership while it is filled: plain facts on worlds.
-/
import Derived.Test.Qxb6626293aMem
namespace Go.Proofs.Qxb6626293a.Mem
open Go.RowKit
set_option linter.unusedVariables false

/-- A set of the new membership: its slices lie in blocks behind the membership's own, N. -/
def NewAt (w : World) (N o : Nat) (s : MSet) : Prop :=
  ∃ M V c d, w.cell? ⟨N, o, none⟩ = some (.slice M s.mem.length c) ∧ w.cell? ⟨N, o + 1, none⟩ = some (.int .u64 s.frm) ∧ w.cell? ⟨N, o + 2, none⟩ = some (.int .u64 s.idx) ∧
    w.cell? ⟨N, o + 3, none⟩ = some (.int .i64 s.win) ∧ w.cell? ⟨N, o + 4, none⟩ = some (.slice V s.val.length d) ∧ Ints w .i64 M s.mem ∧ Ints w .u8 V s.val ∧
    (∀ a, M = some a → N < a.block) ∧ (∀ a, V = some a → N < a.block)

theorem NewAt.later {w w' : World} {N o : Nat} {s : MSet} (h : NewAt w N o s) (hb : Below w.heap.size w w') : NewAt w' N o s := by
  obtain ⟨M, V, c, d, h0, h1, h2, h3, h4, hm, hv, r⟩ := h
  exact ⟨M, V, c, d, cellLater h0 hb, cellLater h1 hb, cellLater h2 hb, cellLater h3 hb, cellLater h4 hb, hm.later hb, hv.later hb, r⟩

theorem Ints.set {w : World} {k : IntKind} {A : Option Addr} {zs : List Int} (h : Ints w k A zs) (p : Addr) (v : Value) (ha : ∀ a, A = some a → p.block < a.block) : Ints (w.setCell p v) k A zs := by
  rcases h with h | ⟨b, off, hA, hc⟩
  · exact Or.inl h
  · refine Or.inr ⟨b, off, hA, fun i hi => ?_⟩
    have hne := ha _ hA
    rw [World.cell?_setCell_other _ _ _ _ (fun e => by rw [e] at hne; exact Nat.lt_irrefl _ hne)]
    exact hc i hi

theorem NewAt.set {w : World} {N o : Nat} {s : MSet} (h : NewAt w N o s) (q : Nat) (v : Value) (hq : q < o ∨ o + 5 ≤ q) : NewAt (w.setCell ⟨N, q, none⟩ v) N o s := by
  obtain ⟨M, V, c, d, h0, h1, h2, h3, h4, hm, hv, r1, r2⟩ := h
  have oth : ∀ j, j < 5 → (w.setCell ⟨N, q, none⟩ v).cell? ⟨N, o + j, none⟩ = w.cell? ⟨N, o + j, none⟩ := fun j hj =>
    World.cell?_setCell_other _ _ _ _ (fun e => by simp only [Addr.mk.injEq] at e; omega)
  exact ⟨M, V, c, d, by rw [← h0]; exact oth 0 (by omega), by rw [← h1]; exact oth 1 (by omega), by rw [← h2]; exact oth 2 (by omega), by rw [← h3]; exact oth 3 (by omega), by rw [← h4]; exact oth 4 (by omega),
    hm.set _ _ r1, hv.set _ _ r2, r1, r2⟩

theorem NewAt.toSet {w : World} {N o : Nat} {s : MSet} (h : NewAt w N o s) : SetAt w N o s := by
  obtain ⟨M, V, c, d, h0, h1, h2, h3, h4, hm, hv, _⟩ := h
  exact ⟨M, V, c, d, h0, h1, h2, h3, h4, hm, hv⟩

/-- One set more: the five stores of a round. -/
theorem newStep {w : World} {N t n : Nat} {f : Nat → Value} {l : List MSet} (hrow : w.rowIs N t (l.length * 5) f) (hn : n < l.length) (hall : ∀ i (hi : i < l.length), i < n → NewAt w N (i * 5) l[i])
    {A1 A2 : Option Addr} (cap1 cap2 : Nat) (h1 : Ints w .i64 A1 l[n].mem) (h2 : Ints w .u8 A2 l[n].val) (f1 : ∀ a, A1 = some a → N < a.block) (f2 : ∀ a, A2 = some a → N < a.block) :
    (∃ g, (((((w.setCell ⟨N, n * 5, none⟩ (.slice A1 l[n].mem.length cap1)).setCell ⟨N, n * 5 + 1, none⟩ (.int .u64 l[n].frm)).setCell ⟨N, n * 5 + 2, none⟩ (.int .u64 l[n].idx)).setCell ⟨N, n * 5 + 3, none⟩ (.int .i64 l[n].win)).setCell ⟨N, n * 5 + 4, none⟩ (.slice A2 l[n].val.length cap2)).rowIs N t (l.length * 5) g) ∧
    ∀ i (hi : i < l.length), i < n + 1 → NewAt (((((w.setCell ⟨N, n * 5, none⟩ (.slice A1 l[n].mem.length cap1)).setCell ⟨N, n * 5 + 1, none⟩ (.int .u64 l[n].frm)).setCell ⟨N, n * 5 + 2, none⟩ (.int .u64 l[n].idx)).setCell ⟨N, n * 5 + 3, none⟩ (.int .i64 l[n].win)).setCell ⟨N, n * 5 + 4, none⟩ (.slice A2 l[n].val.length cap2)) N (i * 5) l[i] := by
  have r := ((((hrow.set (n * 5) (.slice A1 l[n].mem.length cap1)).set (n * 5 + 1) (.int .u64 l[n].frm)).set (n * 5 + 2) (.int .u64 l[n].idx)).set (n * 5 + 3) (.int .i64 l[n].win)).set (n * 5 + 4) (.slice A2 l[n].val.length cap2)
  refine ⟨⟨_, r⟩, fun i hi hlt => ?_⟩
  by_cases e : i = n
  · subst e
    refine ⟨A1, A2, cap1, cap2, ?_, ?_, ?_, ?_, ?_, ((((h1.set _ _ f1).set _ _ f1).set _ _ f1).set _ _ f1).set _ _ f1, ((((h2.set _ _ f2).set _ _ f2).set _ _ f2).set _ _ f2).set _ _ f2, f1, f2⟩
    · rw [r.cell (i := i * 5) (by omega)]; simp
    · rw [r.cell (i := i * 5 + 1) (by omega)]; simp
    · rw [r.cell (i := i * 5 + 2) (by omega)]; simp
    · rw [r.cell (i := i * 5 + 3) (by omega)]; simp
    · rw [r.cell (i := i * 5 + 4) (by omega)]; simp
  · have h := hall i hi (by omega)
    exact ((((h.set _ _ (by omega)).set _ _ (by omega)).set _ _ (by omega)).set _ _ (by omega)).set _ _ (by omega)

end Go.Proofs.Qxb6626293a.Mem
