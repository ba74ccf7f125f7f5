/-
  Slices of integers and of member sets, as they lie in memory: plain facts on worlds, no Go text.
-/
import Derived.WalkKit
import Derived.Deep.OwnRows
import Derived.Deep.QuietTactic
import Derived.BigQuiet
namespace Go.Proofs.Qxb6626293a.Mem
open Go.RowKit

/-- The slice at A holds the numbers zs (of kind k) in w; an empty one may lead anywhere. -/
def Ints (w : World) (k : IntKind) (A : Option Addr) (zs : List Int) : Prop :=
  zs = [] ∨ ∃ b off, A = some ⟨b, off, none⟩ ∧ ∀ i, i < zs.length → w.cell? ⟨b, off + i, none⟩ = some (.int k (zs.getD i 0))

theorem Ints.later {w w' : World} {k : IntKind} {A : Option Addr} {zs : List Int} (h : Ints w k A zs) (hb : Below w.heap.size w w') : Ints w' k A zs := by
  rcases h with h | ⟨b, off, hA, hc⟩
  · exact Or.inl h
  · exact Or.inr ⟨b, off, hA, fun i hi => by
      have h1 := hc i hi
      rw [hb.cell (World.block_lt_of_cell? _ _ h1)]
      exact h1⟩

theorem belowN (w : World) (B n : Nat) : Below B w (w.drewN n) := ⟨rfl, rfl, rfl, Nat.le_refl _, fun _ _ => rfl⟩

/-- A row of this call's own making, filled with zs, is a slice of them. -/
theorem ints_of_row {w : World} {k : IntKind} {b : Nat} {t : TypeId} {zs : List Int} (h : w.rowIs b t zs.length (fun j => .int k (zs.getD j 0))) : Ints w k (some ⟨b, 0, none⟩) zs :=
  Or.inr ⟨b, 0, rfl, fun i hi => by rw [Nat.zero_add]; exact h.cell hi⟩

/-- One member set, as plain data. -/
structure MSet where
  mem : List Int
  frm : Int
  idx : Int
  win : Int
  val : List Int

/-- Its two slices lie in w at A and at B, and are not over-long. -/
def Lies (w : World) (s : MSet) (A B : Option Addr) : Prop :=
  Ints w .i64 A s.mem ∧ Ints w .u8 B s.val ∧ s.mem.length ≤ 1048576 ∧ s.val.length ≤ 1048576

theorem Lies.later {w w' : World} {s : MSet} {A B : Option Addr} (h : Lies w s A B) (hb : Below w.heap.size w w') : Lies w' s A B :=
  ⟨h.1.later hb, h.2.1.later hb, h.2.2⟩

/-- Element i of a slice of member sets, at block b from off on: its five cells. -/
def SetAt (w : World) (b o : Nat) (s : MSet) : Prop :=
  ∃ M V c d, w.cell? ⟨b, o, none⟩ = some (.slice M s.mem.length c) ∧ w.cell? ⟨b, o + 1, none⟩ = some (.int .u64 s.frm) ∧ w.cell? ⟨b, o + 2, none⟩ = some (.int .u64 s.idx) ∧
    w.cell? ⟨b, o + 3, none⟩ = some (.int .i64 s.win) ∧ w.cell? ⟨b, o + 4, none⟩ = some (.slice V s.val.length d) ∧ Ints w .i64 M s.mem ∧ Ints w .u8 V s.val

theorem cellLater {w w' : World} {a : Addr} {v : Value} (h : w.cell? a = some v) (hb : Below w.heap.size w w') : w'.cell? a = some v := by
  rw [hb.cell (World.block_lt_of_cell? _ _ h)]; exact h

theorem SetAt.later {w w' : World} {b o : Nat} {s : MSet} (h : SetAt w b o s) (hb : Below w.heap.size w w') : SetAt w' b o s := by
  obtain ⟨M, V, c, d, h0, h1, h2, h3, h4, hm, hv⟩ := h
  exact ⟨M, V, c, d, cellLater h0 hb, cellLater h1 hb, cellLater h2 hb, cellLater h3 hb, cellLater h4 hb, hm.later hb, hv.later hb⟩

/-- The slice at A holds the member sets l. -/
def Sets (w : World) (A : Option Addr) (l : List MSet) : Prop :=
  l = [] ∨ ∃ b off, A = some ⟨b, off, none⟩ ∧ ∀ i (hi : i < l.length), SetAt w b (off + i * 5) l[i]

theorem Sets.later {w w' : World} {A : Option Addr} {l : List MSet} (h : Sets w A l) (hb : Below w.heap.size w w') : Sets w' A l := by
  rcases h with h | ⟨b, off, hA, hc⟩
  · exact Or.inl h
  · exact Or.inr ⟨b, off, hA, fun i hi => (hc i hi).later hb⟩

end Go.Proofs.Qxb6626293a.Mem
