/-
  Histograms that a call makes and fills: plain facts on worlds and numbers, no Go text.
-/
import Derived.Test.Qxb6626327aMem
namespace Go.Proofs.Qxb6626327a.Mem
open Go.RowKit Plain
set_option linter.unusedVariables false

/-- The counts behind the observations xs. -/
def cntC (U : Nat → Int) (bs xs : List Nat) : Nat → Int := fun j => IntKind.u64.wrap (U j + cnt bs xs j)

theorem wrap_wrap (a b : Int) : IntKind.u64.wrap (IntKind.u64.wrap a + b) = IntKind.u64.wrap (a + b) := by
  simp only [IntKind.wrap_u64]
  omega

theorem wrap_id {a : Int} (h0 : 0 ≤ a) (h1 : a ≤ 18446744073709551615) : IntKind.u64.wrap a = a := by
  rw [IntKind.wrap_u64]; omega

theorem cntC_nil (U : Nat → Int) (bs : List Nat) (j : Nat) (h : 0 ≤ U j ∧ U j ≤ 18446744073709551615) : U j = cntC U bs [] j := by
  unfold cntC cnt
  simp only [List.filter_nil, List.length_nil]
  rw [wrap_id (by omega) (by omega)]
  omega

theorem cntC_snoc (U : Nat → Int) (bs xs : List Nat) (x j : Nat) : (if j = idx x bs then IntKind.u64.wrap (cntC U bs xs (idx x bs) + 1) else cntC U bs xs j) = cntC U bs (xs ++ [x]) j := by
  unfold cntC
  rw [cnt_snoc]
  by_cases e : j = idx x bs
  · subst e
    simp only [if_true]
    rw [wrap_wrap]
    congr 1
    omega
  · simp only [e, if_false, Nat.add_zero]

/-- What the walk carries on: nothing old has turned; the three copies lie where they lay. -/
def Env (w0 w : World) (A : Option Addr) (c : Nat) (Z : Option Addr) (bs : List Nat) (n : Nat) (U : Nat → Int) (zs : List Nat) : Prop :=
  Below w0.heap.size w0 w ∧ Vals w A bs.length (fl bs) ∧ Vals w (some ⟨c, 0, none⟩) n (un U) ∧ Vals w Z zs.length (fl zs)

theorem Env.later {w0 w w' : World} {A : Option Addr} {c : Nat} {Z : Option Addr} {bs : List Nat} {n : Nat} {U : Nat → Int} {zs : List Nat} (h : Env w0 w A c Z bs n U zs) (b : Below w.heap.size w w') : Env w0 w' A c Z bs n U zs :=
  ⟨h.1.trans (b.mono h.1.size), h.2.1.later b, h.2.2.1.later b, h.2.2.2.later b⟩

/-- A histogram has just been made: its bounds copied, its counts copied or made, its own cells laid. -/
theorem mkHist {w w1 w2 : World} {BA : Option Addr} {bc : Nat} {bs : List Nat} {n : Nat} {U : Nat → Int} {s cb : Nat} (hb : Below w.heap.size w w1) (hv : Vals w1 BA bs.length (fl bs)) (ha : ∀ a, BA = some a → a.block ≠ cb ∧ a.block < w2.heap.size)
    (hb2 : Below w1.heap.size w1 w2) (hr : w2.rowIs cb 33 n (un U)) :
    Hist (w2.alloc (.cells #[.slice BA bs.length bc, .slice (some ⟨cb, 0, none⟩) n n, .float .f64 s] 41)) w2.heap.size cb BA bc bs n U s ∧
    Below w.heap.size w (w2.alloc (.cells #[.slice BA bs.length bc, .slice (some ⟨cb, 0, none⟩) n n, .float .f64 s] 41)) := by
  have b3 : Below w2.heap.size w2 (w2.alloc (.cells #[.slice BA bs.length bc, .slice (some ⟨cb, 0, none⟩) n n, .float .f64 s] 41)) := (Below.refl _ _).alloc (Nat.le_refl _) _
  refine ⟨⟨?_, rowLater hr b3, (hv.later hb2).later b3, fun e => ?_, fun a h => ⟨fun e => ?_, (ha a h).1⟩⟩, (hb.trans (hb2.mono hb.size)).trans (b3.mono (Nat.le_trans hb.size hb2.size))⟩
  · refine World.rowIs_alloc w2 _ 41 _ (fun i hi => ?_)
    have : i < 3 := hi
    match i, this with
    | 0, _ => rfl
    | 1, _ => rfl
    | 2, _ => rfl
  · have := hr.lt; omega
  · have := (ha a h).2; omega

/-- A histogram that has observed the first m of the list xs, from the world w on. -/
def Filled (w wr : World) (hb cb : Nat) (BA : Option Addr) (bc : Nat) (bs : List Nat) (n : Nat) (U : Nat → Int) (s : Nat) (xs : List Nat) : Prop :=
  ∃ r, Sums s xs r ∧ Hist wr hb cb BA bc bs n (cntC U bs xs) r ∧ Below w.heap.size w wr ∧ hb < wr.heap.size

theorem Filled.start {w wr : World} {hb cb : Nat} {BA : Option Addr} {bc : Nat} {bs : List Nat} {n : Nat} {U : Nat → Int} {s : Nat} (h : Hist wr hb cb BA bc bs n U s) (hu : ∀ j, j < n → 0 ≤ U j ∧ U j ≤ 18446744073709551615) (b : Below w.heap.size w wr) : Filled w wr hb cb BA bc bs n U s [] :=
  ⟨s, rfl, h.congr (fun j hj => cntC_nil U bs j (hu j hj)), b, h.1.lt⟩

theorem Filled.next {w wr w' : World} {hb cb : Nat} {BA : Option Addr} {bc : Nat} {bs : List Nat} {n : Nat} {U : Nat → Int} {s : Nat} {xs : List Nat} {x r r' : Nat} (hs : Sums s xs r) (b : Below w.heap.size w wr) (hf : FAdd r x r')
    (h : Hist w' hb cb BA bc bs n (fun j => if j = idx x bs then IntKind.u64.wrap (cntC U bs xs (idx x bs) + 1) else cntC U bs xs j) r') (b' : Below w.heap.size wr w') : Filled w w' hb cb BA bc bs n U s (xs ++ [x]) :=
  ⟨r', sums_snoc _ _ _ _ _ hs hf, h.congr (fun j _ => cntC_snoc U bs xs x j), b.trans b', h.1.lt⟩

/-- The zero counts. -/
def U0 : Nat → Int := fun _ => 0

/-- The third histogram: its bounds copied, then its counts made. -/
theorem mk1 {w w1 wx : World} {BA : Option Addr} {bc : Nat} {bs : List Nat} {n s : Nat} (hb : Below w.drew.heap.size w.drew w1) (hv : Vals w1 BA bs.length (fl bs)) (ha : ∀ a, BA = some a → w.drew.heap.size ≤ a.block ∧ a.block < w1.heap.size)
    (hw : (w1.alloc (.cells (madeCells #[.int .u64 0] n) 33)).alloc (.cells #[.slice BA bs.length bc, .slice (some ⟨w1.heap.size, 0, none⟩) n n, .float .f64 s] 41) = wx) :
    Filled w wx (w1.heap.size + 1) w1.heap.size BA bc bs n U0 s [] ∧ w.heap.size ≤ w1.heap.size + 1 ∧ w.heap.size ≤ w1.heap.size := by
  have hb' : Below w.heap.size w w1 := (Below.refl _ _).drew.trans hb
  have hb2 : Below w1.heap.size w1 (w1.alloc (.cells (madeCells #[.int .u64 0] n) 33)) := (Below.refl _ _).alloc (Nat.le_refl _) _
  have h := mkHist (s := s) (bc := bc) (U := U0) hb' hv (fun a h => ⟨Nat.ne_of_lt (ha a h).2, Nat.lt_of_lt_of_le (ha a h).2 hb2.size⟩) hb2 (World.rowIs_made _ _ _ _)
  rw [hw] at h
  have e : (w1.alloc (.cells (madeCells #[.int .u64 0] n) 33)).heap.size = w1.heap.size + 1 := by simp
  rw [e] at h
  have hz := hb'.size
  exact ⟨Filled.start h.1 (fun j _ => by unfold U0; omega) h.2, by omega, by omega⟩

/-- .. its counts made, then its bounds copied. -/
theorem mk2 {w w1 wx : World} {BA : Option Addr} {bc : Nat} {bs : List Nat} {n s : Nat} (hb : Below (w.alloc (.cells (madeCells #[.int .u64 0] n) 33)).drew.heap.size (w.alloc (.cells (madeCells #[.int .u64 0] n) 33)).drew w1) (hv : Vals w1 BA bs.length (fl bs))
    (ha : ∀ a, BA = some a → (w.alloc (.cells (madeCells #[.int .u64 0] n) 33)).drew.heap.size ≤ a.block ∧ a.block < w1.heap.size)
    (hw : w1.alloc (.cells #[.slice BA bs.length bc, .slice (some ⟨w.heap.size, 0, none⟩) n n, .float .f64 s] 41) = wx) :
    Filled w wx w1.heap.size w.heap.size BA bc bs n U0 s [] ∧ w.heap.size ≤ w1.heap.size ∧ w.heap.size ≤ w.heap.size := by
  have e : (w.alloc (.cells (madeCells #[.int .u64 0] n) 33)).drew.heap.size = w.heap.size + 1 := by simp
  have hb' : Below w.heap.size w w1 := ((Below.refl _ _).alloc (Nat.le_refl _) _).drew.trans (hb.mono (by rw [e]; omega))
  have hr : (w.alloc (.cells (madeCells #[.int .u64 0] n) 33)).drew.rowIs w.heap.size 33 n (un U0) := World.rowIs_made _ _ _ _
  have h := mkHist (s := s) (bc := bc) (U := U0) hb' hv (fun a h => ⟨by have := (ha a h).1; rw [e] at this; omega, (ha a h).2⟩) (Below.refl _ _) (rowLater hr hb)
  rw [hw] at h
  exact ⟨Filled.start h.1 (fun j _ => by unfold U0; omega) h.2, hb'.size, Nat.le_refl _⟩

theorem split_eq (U : Nat → Int) (bs zs : List Nat) (k j : Nat) : cntC U bs zs j = IntKind.u64.wrap (cntC U bs (zs.take k) j + cntC U0 bs (zs.drop k) j) := by
  have h := cnt_append bs (zs.take k) (zs.drop k) j
  rw [List.take_append_drop] at h
  unfold cntC U0
  simp only [IntKind.wrap_u64]
  omega

/-- The three totals behind m buckets: 'all' is 'start' and what fell below m; 'fresh' is what fell below m of the rest. -/
def Tot (bs zs rest : List Nat) (m : Nat) (a b c : Int) : Prop := b = IntKind.u64.wrap (a + below bs zs m) ∧ c = IntKind.u64.wrap (below bs rest m)

theorem Tot.start (bs zs rest : List Nat) : Tot bs zs rest 0 0 0 0 := by
  unfold Tot
  rw [below_zero, below_zero]
  simp [IntKind.wrap_u64]

theorem Tot.next {bs zs rest : List Nat} {m : Nat} {a b c : Int} (h : Tot bs zs rest m a b c) (U : Nat → Int) :
    Tot bs zs rest (m + 1) (IntKind.u64.wrap (a + U m)) (IntKind.u64.wrap (b + cntC U bs zs m)) (IntKind.u64.wrap (c + cntC U0 bs rest m)) := by
  obtain ⟨h1, h2⟩ := h
  unfold Tot
  rw [below_succ, below_succ, h1, h2]
  unfold cntC U0
  simp only [IntKind.wrap_u64]
  constructor <;> omega

theorem Tot.ends {bs zs rest : List Nat} {m : Nat} {a b c : Int} (h : Tot bs zs rest m a b c) (hm : bs.length < m) (hz : zs.length ≤ 65536) (hr : rest.length ≤ 65536) : IntKind.u64.wrap (b - a) = (zs.length : Int) ∧ c = (rest.length : Int) := by
  obtain ⟨h1, h2⟩ := h
  rw [below_all _ _ _ hm] at h1 h2
  rw [h1, h2]
  simp only [IntKind.wrap_u64]
  constructor <;> omega

theorem vals_take {w : World} {Z : Option Addr} {zs : List Nat} (h : Vals w Z zs.length (fl zs)) (k : Nat) (hk : k ≤ zs.length) : Vals w Z k (fl (zs.take k)) := by
  rcases h with h | ⟨b, off, hA, hc⟩
  · exact Or.inl (by omega)
  · refine Or.inr ⟨b, off, hA, fun i hi => ?_⟩
    rw [hc i (by omega)]
    unfold fl
    simp [hi]

theorem vals_drop {w : World} {b off : Nat} {zs : List Nat} (h : ∀ i, i < zs.length → w.cell? ⟨b, off + i, none⟩ = some (fl zs i)) (k : Nat) : Vals w (some ⟨b, off + k, none⟩) (zs.length - k) (fl (zs.drop k)) := by
  refine Or.inr ⟨b, off + k, rfl, fun i hi => ?_⟩
  have := h (k + i) (by omega)
  rw [show off + k + i = off + (k + i) by omega, this]
  unfold fl
  simp [List.getElem?_drop]

theorem take_snoc (xs : List Nat) (m : Nat) (h : m < xs.length) : xs.take (m + 1) = xs.take m ++ [xs.getD m 0] := by
  rw [List.take_succ_eq_append_getElem h]
  simp [h]

/-- The observations from k on, m of them. -/
theorem drop_snoc (xs : List Nat) (k m : Nat) (h : k + m < xs.length) : (xs.drop k).take (m + 1) = (xs.drop k).take m ++ [xs.getD (k + m) 0] := by
  rw [take_snoc _ _ (by rw [List.length_drop]; omega)]
  simp [h, List.getElem?_drop]

end Go.Proofs.Qxb6626327a.Mem
