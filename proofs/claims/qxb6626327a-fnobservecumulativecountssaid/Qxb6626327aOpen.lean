import Derived.Test.Qxb6626327aRows
import Derived.Test.Qxb6626327aMem
import Derived.Deep.Slices
import Derived.WalkKit
import Derived.ProofKit
import Derived.OpenShut
namespace Go.Proofs.Qxb6626327a.Open
open Go.ChangeShapes Go.WideShapes Go.RowKit Go.Deep Mem
set_option linter.unusedVariables false

theorem cells24 : Try.prog.cellsOf 24 = 1 := by kernel_rfl
theorem cells33 : Try.prog.cellsOf 33 = 1 := by kernel_rfl

section
variable {H : Type} {enc : TypeId × Value → H} {w : World} {base : Nat} {spare : Nat → Bool} {held : Bool}

theorem trod_float {t : TypeId} {k : FloatKind} {fuel : Nat} {cs : List Value} {x : DataW H × List MemPlace} (ht : Try.prog.underlying t = some (.float k)) (h : DataW.trod enc Try.prog w base spare held fuel t cs = some x) : ∃ b, cs = [.float k b] := by
  cases fuel with
  | zero => simp [DataW.trod] at h
  | succ n =>
    unfold DataW.trod at h
    rw [ht] at h
    split at h <;> simp_all

theorem vals_of {t e : TypeId} {len cap : Nat} {a : Option Addr} {d : DataW H} {p : List MemPlace} (ht : Try.prog.underlying t = some (.slice e)) (hc : Try.prog.cellsOf e = 1) (h : DataW.Trod enc Try.prog w base spare held t (.slice a len cap) d p) :
    ∃ f : Nat → Value, Vals w a len f ∧ ∀ i, i < len → ∃ n x, DataW.trod enc Try.prog w base spare held n e [f i] = some x := by
  obtain ⟨fuel, hf⟩ := h
  rcases open_slice1 ht hc hf with ⟨hcs, _⟩ | ⟨x, len', cap', m, n, V, D, Pl, hcs, _, hl, hm, hmm, _, hx⟩
  · simp [Value.cells] at hcs
    obtain ⟨rfl, rfl, rfl⟩ := hcs
    exact ⟨fun _ => undef, Or.inl rfl, fun i hi => absurd hi (Nat.not_lt_zero _)⟩
  · simp [Value.cells] at hcs
    obtain ⟨rfl, rfl, rfl⟩ := hcs
    have hlm : len ≤ m := by rw [hmm]; split <;> omega
    refine ⟨V, ?_, fun i hi => ⟨n, _, (hx i (by omega)).2⟩⟩
    by_cases h0 : len = 0
    · exact Or.inl h0
    · obtain ⟨b, off, spot⟩ := x
      have hspot : spot = none := by
        have := (hx 0 (by omega)).1
        simp [Addr.add] at this
        exact World.cell?_spot this
      subst hspot
      refine Or.inr ⟨b, off, rfl, fun i hi => ?_⟩
      have := (hx i (by omega)).1
      rwa [add_plain] at this

theorem floats_of {len cap : Nat} {a : Option Addr} {d : DataW H} {p : List MemPlace} (h : DataW.Trod enc Try.prog w base spare held 22 (.slice a len cap) d p) : ∃ bs : List Nat, bs.length = len ∧ Vals w a len (fl bs) := by
  obtain ⟨f, hv, hf⟩ := vals_of Try.underlying22 cells24 h
  obtain ⟨g, hg⟩ := choose_lt (n := len) (p := fun i (b : Nat) => f i = .float .f64 b) (fun i hi => by
    obtain ⟨n, x, hx⟩ := hf i hi
    obtain ⟨b, hb⟩ := trod_float Try.underlying24 hx
    exact ⟨b, by simpa using hb⟩)
  refine ⟨(List.range len).map g, by simp, ?_⟩
  rcases hv with h0 | ⟨b, off, hA, hc⟩
  · exact Or.inl h0
  · refine Or.inr ⟨b, off, hA, fun i hi => ?_⟩
    rw [hc i hi, hg i hi]
    unfold fl
    simp [hi]

theorem counts_of {len cap : Nat} {a : Option Addr} {d : DataW H} {p : List MemPlace} (h : DataW.Trod enc Try.prog w base spare held 23 (.slice a len cap) d p) : ∃ U : Nat → Int, Vals w a len (un U) ∧ ∀ j, j < len → 0 ≤ U j ∧ U j ≤ 18446744073709551615 := by
  obtain ⟨f, hv, hf⟩ := vals_of Try.underlying23 cells33 h
  obtain ⟨g, hg⟩ := choose_lt (n := len) (p := fun i (b : Int) => f i = .int .u64 b ∧ 0 ≤ b ∧ b ≤ 18446744073709551615) (fun i hi => by
    obtain ⟨n, x, hx⟩ := hf i hi
    obtain ⟨b, hb, _, wb⟩ := DataW.trod_int Try.underlying33 hx
    exact ⟨b, by simpa using hb, bounds_u64 wb⟩)
  refine ⟨g, ?_, fun j hj => (hg j hj).2⟩
  rcases hv with h0 | ⟨b, off, hA, hc⟩
  · exact Or.inl h0
  · exact Or.inr ⟨b, off, hA, fun i hi => by rw [hc i hi, (hg i hi).1]; rfl⟩
end
end Go.Proofs.Qxb6626327a.Open
