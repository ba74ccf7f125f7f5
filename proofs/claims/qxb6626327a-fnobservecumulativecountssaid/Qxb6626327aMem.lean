/-
  Rows of floats and of counts, and a histogram, as they lie in memory: plain facts on worlds, no Go text.
-/
import Derived.Test.Qxb6626327aPlain
import Derived.Deep.OwnRows
import Derived.Deep.QuietTactic
import Derived.BigQuiet
namespace Go.Proofs.Qxb6626327a.Mem
open Go.RowKit Plain
set_option linter.unusedVariables false

/-- A store of a float (beside the kit's of the other kinds). -/
theorem run_store_float {P : Program} {w : World} {a : Addr} {m : Mode} (k : FloatKind) (b : Nat) : (store a (.float k b) m).run P w = stored P w a (.float k b) m := run_store P w a _ m rfl

/-- The slice at A holds the n values f in w; an empty one may lead anywhere. -/
def Vals (w : World) (A : Option Addr) (n : Nat) (f : Nat → Value) : Prop :=
  n = 0 ∨ ∃ b off, A = some ⟨b, off, none⟩ ∧ ∀ i, i < n → w.cell? ⟨b, off + i, none⟩ = some (f i)

def fl (bs : List Nat) : Nat → Value := fun i => .float .f64 (bs.getD i 0)
def un (C : Nat → Int) : Nat → Value := fun i => .int .u64 (C i)

theorem cellLater {w w' : World} {a : Addr} {v : Value} (h : w.cell? a = some v) (hb : Below w.heap.size w w') : w'.cell? a = some v := by
  rw [hb.cell (World.block_lt_of_cell? _ _ h)]; exact h

theorem Vals.later {w w' : World} {A : Option Addr} {n : Nat} {f : Nat → Value} (h : Vals w A n f) (hb : Below w.heap.size w w') : Vals w' A n f := by
  rcases h with h | ⟨b, off, hA, hc⟩
  · exact Or.inl h
  · exact Or.inr ⟨b, off, hA, fun i hi => cellLater (hc i hi) hb⟩

theorem Vals.at {w : World} {A : Option Addr} {n : Nat} {f : Nat → Value} (h : Vals w A n f) (hn : 0 < n) : ∃ b off, A = some ⟨b, off, none⟩ ∧ ∀ i, i < n → w.cell? ⟨b, off + i, none⟩ = some (f i) := by
  rcases h with h | h
  · omega
  · exact h

theorem belowN (w : World) (B n : Nat) : Below B w (w.drewN n) := ⟨rfl, rfl, rfl, Nat.le_refl _, fun _ _ => rfl⟩

theorem rowLater {w w' : World} {N t m : Nat} {f : Nat → Value} (h : w.rowIs N t m f) (hb : Below w.heap.size w w') : w'.rowIs N t m f := h.of_block (hb.block _ h.lt)

theorem vals_of_row {w : World} {b t n : Nat} {f : Nat → Value} (h : w.rowIs b t n f) : Vals w (some ⟨b, 0, none⟩) n f :=
  Or.inr ⟨b, 0, rfl, fun i hi => by rw [Nat.zero_add]; exact h.cell hi⟩

theorem Vals.set {w : World} {A : Option Addr} {n : Nat} {f : Nat → Value} (h : Vals w A n f) (p : Addr) (v : Value) (ha : ∀ a, A = some a → a.block ≠ p.block) : Vals (w.setCell p v) A n f := by
  rcases h with h | ⟨b, off, hA, hc⟩
  · exact Or.inl h
  · refine Or.inr ⟨b, off, hA, fun i hi => ?_⟩
    rw [World.cell?_setCell_other _ _ _ _ (fun e => ha _ hA (by rw [e]))]
    exact hc i hi

/-- The histogram's own three cells. -/
def own3 (BA : Option Addr) (nb bc cb n s : Nat) : Nat → Value := fun j => if j = 0 then .slice BA nb bc else if j = 1 then .slice (some ⟨cb, 0, none⟩) n n else .float .f64 s

/-- A histogram at block hb: its bounds at BA, its counts C in block cb, its sum s; no two of them share memory. -/
def Hist (w : World) (hb cb : Nat) (BA : Option Addr) (bc : Nat) (bs : List Nat) (n : Nat) (C : Nat → Int) (s : Nat) : Prop :=
  w.rowIs hb 41 3 (own3 BA bs.length bc cb n s) ∧ w.rowIs cb 33 n (un C) ∧ Vals w BA bs.length (fl bs) ∧ hb ≠ cb ∧ ∀ a, BA = some a → a.block ≠ hb ∧ a.block ≠ cb

theorem Hist.later {w w' : World} {hb cb : Nat} {BA : Option Addr} {bc : Nat} {bs : List Nat} {n : Nat} {C : Nat → Int} {s : Nat} (h : Hist w hb cb BA bc bs n C s) (b : Below w.heap.size w w') : Hist w' hb cb BA bc bs n C s :=
  ⟨rowLater h.1 b, rowLater h.2.1 b, h.2.2.1.later b, h.2.2.2⟩

theorem Hist.congr {w : World} {hb cb : Nat} {BA : Option Addr} {bc : Nat} {bs : List Nat} {n : Nat} {C D : Nat → Int} {s : Nat} (h : Hist w hb cb BA bc bs n C s) (e : ∀ j, j < n → C j = D j) : Hist w hb cb BA bc bs n D s :=
  ⟨h.1, h.2.1.congr (fun i hi => by unfold un; rw [e i hi]), h.2.2⟩

/-- One observation's two stores. -/
theorem Hist.step {w : World} {hb cb : Nat} {BA : Option Addr} {bc : Nat} {bs : List Nat} {n : Nat} {C : Nat → Int} {s : Nat} (h : Hist w hb cb BA bc bs n C s) (k : Nat) (hk : k < n) (c : Int) (r : Nat) :
    Hist ((w.setCell ⟨cb, k, none⟩ (.int .u64 c)).setCell ⟨hb, 2, none⟩ (.float .f64 r)) hb cb BA bc bs n (fun j => if j = k then c else C j) r := by
  obtain ⟨h1, h2, h3, h4, h5⟩ := h
  refine ⟨((h1.setOther h4 _).set 2 _).congr (fun j hj => ?_), ((h2.set k _).setOther (fun e => h4 e.symm) _).congr (fun j hj => ?_), (h3.set _ _ (fun a ha => (h5 a ha).2)).set _ _ (fun a ha => (h5 a ha).1), h4, h5⟩
  · unfold own3
    by_cases e2 : j = 2
    · subst e2; simp
    · simp [e2]
      by_cases e0 : j = 0
      · simp [e0]
      · have : j = 1 := by omega
        simp [this]
  · unfold un
    by_cases e : j = k <;> simp [e]

end Go.Proofs.Qxb6626327a.Mem
