import Derived.Test.Qxb6626293aRows
import Derived.Test.Qxb6626293aMem
import Derived.Deep.Slices
import Derived.WalkKit
import Derived.ProofKit
import Derived.OpenShut
namespace Go.Proofs.Qxb6626293a.Open
open Go.ChangeShapes Go.WideShapes Go.RowKit Go.Deep Mem

theorem cells37 : Try.prog.cellsOf 37 = 5 := by kernel_rfl
theorem cells29 : Try.prog.cellsOf 29 = 1 := by kernel_rfl
theorem cells23 : Try.prog.cellsOf 23 = 1 := by kernel_rfl
theorem cells3 : Try.prog.cellsOf 3 = 1 := by kernel_rfl
theorem cells30 : Try.prog.cellsOf 30 = 1 := by kernel_rfl
theorem cells5 : Try.prog.cellsOf 5 = 1 := by kernel_rfl

section
variable {H : Type} {enc : TypeId × Value → H} {w : World} {base : Nat} {spare : Nat → Bool} {held : Bool}

theorem ints_of {t e : TypeId} {k : IntKind} {fuel : Nat} {cs : List Value} {x : DataW H × List MemPlace} (ht : Try.prog.underlying t = some (.slice e)) (he : Try.prog.underlying e = some (.int k)) (hc : Try.prog.cellsOf e = 1)
    (h : DataW.trod enc Try.prog w base spare held fuel t cs = some x) : ∃ (A : Option Addr) (zs : List Int) (c : Nat), cs = [.slice A zs.length c] ∧ Ints w k A zs := by
  rcases open_ints ht he hc h with ⟨hcs, _⟩ | ⟨a, len, cap, zs, hcs, _, hl, hm, hz, _, hcell, _⟩
  · exact ⟨none, [], 0, hcs, Or.inl rfl⟩
  · have hlen : (zs.take len).length = len := by
      rw [List.length_take, hz]
      split <;> omega
    refine ⟨some a, zs.take len, cap, by rw [hlen]; exact hcs, ?_⟩
    by_cases h0 : len = 0
    · subst h0; exact Or.inl (by simp)
    · have hp : 0 < zs.length := by rw [hz]; split <;> omega
      obtain ⟨b, off, rfl, hc'⟩ := ints_at hcell hp
      refine Or.inr ⟨b, off, rfl, fun i hi => ?_⟩
      rw [hlen] at hi
      have hi' : i < zs.length := by rw [hz]; split <;> omega
      rw [hc' i hi']
      simp [List.getD, hi]

/-- One element: five cells that read as a member set. -/
theorem set_of {fuel : Nat} {cs : List Value} {x : DataW H × List MemPlace} (h : DataW.trod enc Try.prog w base spare held fuel 37 cs = some x) :
    ∃ (s : MSet) (M V : Option Addr) (c d : Nat), cs = [.slice M s.mem.length c, .int .u64 s.frm, .int .u64 s.idx, .int .i64 s.win, .slice V s.val.length d] ∧ Ints w .i64 M s.mem ∧ Ints w .u8 V s.val ∧ 0 ≤ s.frm ∧ s.frm ≤ 18446744073709551615 := by
  obtain ⟨xs, n, _, rfl, hl, hlen, hf⟩ := DataW.trod_struct Try.underlying37 h
  rw [cells37] at hl
  match cs, hl with
  | [v0, v1, v2, v3, v4], _ =>
    match xs, hlen with
    | [y0, y1, y2, y3, y4], _ =>
      have h0 : DataW.trod enc Try.prog w base spare held n 29 [v0] = some y0 := by have := hf 0 _ rfl; simpa [cells29] using this
      have h1 : DataW.trod enc Try.prog w base spare held n 23 [v1] = some y1 := by have := hf 1 _ rfl; simpa [cells23] using this
      have h2 : DataW.trod enc Try.prog w base spare held n 23 [v2] = some y2 := by have := hf 2 _ rfl; simpa [cells23] using this
      have h3 : DataW.trod enc Try.prog w base spare held n 3 [v3] = some y3 := by have := hf 3 _ rfl; simpa [cells3] using this
      have h4 : DataW.trod enc Try.prog w base spare held n 30 [v4] = some y4 := by have := hf 4 _ rfl; simpa [cells30] using this
      obtain ⟨M, ms, c, e0, hM⟩ := ints_of Try.underlying29 Try.underlying3 cells3 h0
      obtain ⟨f, e1, _, wf⟩ := DataW.trod_int Try.underlying23 h1
      obtain ⟨i, e2, _, _⟩ := DataW.trod_int Try.underlying23 h2
      obtain ⟨g, e3, _, _⟩ := DataW.trod_int Try.underlying3 h3
      obtain ⟨V, vs, d, e4, hV⟩ := ints_of Try.underlying30 Try.underlying5 cells5 h4
      simp at e0 e1 e2 e3 e4
      subst e0 e1 e2 e3 e4
      obtain ⟨b0, b1⟩ := bounds_u64 wf
      exact ⟨⟨ms, f, i, g, vs⟩, M, V, c, d, rfl, hM, hV, b0, b1⟩

/-- The whole argument: a slice of member sets. -/
theorem sets_of {a : Option Addr} {len cap : Nat} {d : DataW H} {p : List MemPlace} (h : DataW.Trod enc Try.prog w base spare held 22 (.slice a len cap) d p) :
    ∃ l : List MSet, l.length = len ∧ Sets w a l ∧ len ≤ 9223372036854775807 ∧ len ≤ cap ∧ ∀ j (hj : j < l.length), 0 ≤ l[j].frm ∧ l[j].frm ≤ 18446744073709551615 := by
  obtain ⟨fuel, hf⟩ := h
  rcases open_slice Try.underlying22 hf with ⟨hcs, _⟩ | ⟨x, len', cap', m, n, D, Pl, hcs, _, hl, hm, hmm, _, hx⟩
  · simp [Value.cells] at hcs
    obtain ⟨rfl, rfl, rfl⟩ := hcs
    exact ⟨[], rfl, Or.inl rfl, by omega, by omega, fun j hj => absurd hj (Nat.not_lt_zero _)⟩
  · simp [Value.cells] at hcs
    obtain ⟨rfl, rfl, rfl⟩ := hcs
    have hlm : len ≤ m := by rw [hmm]; split <;> omega
    have hex : ∀ i, i < len → ∃ s : MSet, (0 ≤ s.frm ∧ s.frm ≤ 18446744073709551615) ∧ ∃ (M V : Option Addr) (c d : Nat), w.cells? base (x.add (i * 5)) 5 = some [.slice M s.mem.length c, .int .u64 s.frm, .int .u64 s.idx, .int .i64 s.win, .slice V s.val.length d] ∧ Ints w .i64 M s.mem ∧ Ints w .u8 V s.val := by
      intro i hi
      obtain ⟨cs', h1, h2⟩ := hx i (by omega)
      obtain ⟨s, M, V, c, d, rfl, hM, hV, hb⟩ := set_of h2
      rw [cells37] at h1
      exact ⟨s, hb, M, V, c, d, h1, hM, hV⟩
    haveI : Inhabited MSet := ⟨⟨[], 0, 0, 0, []⟩⟩
    obtain ⟨F, hF⟩ := choose_lt hex
    refine ⟨(List.range len).map F, by simp, ?_, by unfold maxLen at hm; omega, hl, fun j hj => ?_⟩
    · by_cases h0 : len = 0
      · subst h0; exact Or.inl rfl
      · obtain ⟨b, off, spot⟩ := x
        have hspot : spot = none := by
          obtain ⟨_, M, V, c, d, hc, _⟩ := hF 0 (by omega)
          have := (World.cells?_some hc).2.2 0 (by omega)
          simp [Addr.add] at this
          exact World.cell?_spot this
        subst hspot
        refine Or.inr ⟨b, off, rfl, fun i hi => ?_⟩
        have hi' : i < len := by simpa using hi
        obtain ⟨_, M, V, c, d, hc, hM, hV⟩ := hF i hi'
        have hcc := (World.cells?_some hc).2.2
        rw [add_plain] at hcc
        have e : ((List.range len).map F)[i] = F i := by simp
        rw [e]
        refine ⟨M, V, c, d, ?_, ?_, ?_, ?_, ?_, hM, hV⟩
        · have := hcc 0 (by omega); rw [add_plain] at this; simpa using this
        · have := hcc 1 (by omega); rw [add_plain] at this; simpa using this
        · have := hcc 2 (by omega); rw [add_plain] at this; simpa using this
        · have := hcc 3 (by omega); rw [add_plain] at this; simpa using this
        · have := hcc 4 (by omega); rw [add_plain] at this; simpa using this
    · have hj' : j < len := by simpa using hj
      have e : ((List.range len).map F)[j] = F j := by simp
      rw [e]
      exact (hF j hj').1
end
end Go.Proofs.Qxb6626293a.Open
