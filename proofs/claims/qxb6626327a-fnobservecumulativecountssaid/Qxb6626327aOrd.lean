/-
  How floats stand to each other: what is not above b is not above what is above b. Plain, no Go text.
-/
import Derived.Test.Qxb6626327aHist
namespace Go.Proofs.Qxb6626327a.Plain
set_option linter.unusedVariables false

theorem cmp_gt (a b : Int) : compare a b = .gt ↔ b < a := by
  show compareOfLessAndEq a b = .gt ↔ b < a
  unfold compareOfLessAndEq
  by_cases h1 : a < b
  · rw [if_pos h1]; simp; omega
  · rw [if_neg h1]
    by_cases h2 : a = b
    · rw [if_pos h2]; simp; omega
    · rw [if_neg h2]; simp; omega

theorem cmp_lt (a b : Int) : compare a b = .lt ↔ a < b := by
  show compareOfLessAndEq a b = .lt ↔ a < b
  unfold compareOfLessAndEq
  by_cases h1 : a < b
  · rw [if_pos h1]; simp [h1]
  · rw [if_neg h1]
    by_cases h2 : a = b
    · rw [if_pos h2]; simp; omega
    · rw [if_neg h2]; simp; omega

theorem signed_up (s : Bool) (m a b : Nat) : Ieee.signed s m (a + b) = Ieee.signed s m a * ((2 ^ b : Nat) : Int) := by
  unfold Ieee.signed
  have h : m <<< (a + b) = (m <<< a) * 2 ^ b := by
    rw [Nat.shiftLeft_eq, Nat.shiftLeft_eq, Nat.pow_add, Nat.mul_assoc]
  rw [h]
  cases s
  · simp
  · simp [Int.neg_mul]

/-- The comparison of two numbers does not hang on the place that is taken for the unit. -/
theorem at_base (s t : Bool) (m n : Nat) (i j c : Int) (hc : c ≤ min i j) :
    (Ieee.signed s m (i - min i j).toNat < Ieee.signed t n (j - min i j).toNat ↔ Ieee.signed s m (i - c).toNat < Ieee.signed t n (j - c).toNat) := by
  have e1 : (i - c).toNat = (i - min i j).toNat + (min i j - c).toNat := by omega
  have e2 : (j - c).toNat = (j - min i j).toNat + (min i j - c).toNat := by omega
  rw [e1, e2, signed_up, signed_up]
  have hp : (0 : Int) < ((2 ^ (min i j - c).toNat : Nat) : Int) := by
    have := Nat.pos_of_ne_zero (n := 2 ^ (min i j - c).toNat) (by simp)
    omega
  constructor
  · intro h; exact Int.mul_lt_mul_of_pos_right h hp
  · intro h; exact Int.lt_of_mul_lt_mul_right h (Int.le_of_lt hp)

theorem datum_mono (x b c : Ieee.Datum) (h1 : x.order b ≠ some .gt) (h2 : b.order c = some .lt) : x.order c ≠ some .gt := by
  cases x with
  | nan s f => simp [Ieee.Datum.order]
  | infinity s =>
    cases b with
    | nan t f => simp [Ieee.Datum.order] at h2
    | infinity t =>
      cases c with
      | nan u f => simp [Ieee.Datum.order] at h2
      | infinity u => cases s <;> cases t <;> cases u <;> simp_all [Ieee.Datum.order, compare, compareOfLessAndEq]
      | number u p k => cases s <;> cases t <;> simp_all [Ieee.Datum.order, compare, compareOfLessAndEq]
    | number t n j =>
      cases s with
      | false => simp [Ieee.Datum.order] at h1
      | true =>
        cases c with
        | nan u f => simp [Ieee.Datum.order] at h2
        | infinity u => cases u <;> simp_all [Ieee.Datum.order, compare, compareOfLessAndEq]
        | number u p k => simp [Ieee.Datum.order]
  | number s m i =>
    cases b with
    | nan t f => simp [Ieee.Datum.order] at h2
    | infinity t =>
      cases t with
      | true => simp [Ieee.Datum.order] at h1
      | false =>
        cases c with
        | nan u f => simp [Ieee.Datum.order] at h2
        | infinity u => cases u <;> simp_all [Ieee.Datum.order, compare, compareOfLessAndEq]
        | number u p k => simp [Ieee.Datum.order] at h2
    | number t n j =>
      cases c with
      | nan u f => simp [Ieee.Datum.order] at h2
      | infinity u => cases u <;> simp_all [Ieee.Datum.order]
      | number u p k =>
        simp only [Ieee.Datum.order, ne_eq, Option.some.injEq, cmp_gt, cmp_lt] at h1 h2 ⊢
        have hB1 : min (min i j) k ≤ min i j := by omega
        have hB2 : min (min i j) k ≤ min j k := by omega
        have hB3 : min (min i j) k ≤ min i k := by omega
        have a1 := at_base t s n m j i (min (min i j) k) (by omega)
        have a2 := at_base t u n p j k (min (min i j) k) hB2
        have a3 := at_base u s p m k i (min (min i j) k) (by omega)
        rw [Int.min_comm j i] at a1
        rw [Int.min_comm k i] at a3
        rw [a1] at h1
        rw [a2] at h2
        rw [a3]
        omega

theorem gtB_mono {x b c : Nat} (h1 : gtB x b = false) (h2 : FloatKind.f64.format.order b c = some .lt) : gtB x c = false := by
  unfold gtB at *
  have h1' : FloatKind.f64.format.order x b ≠ some .gt := by simpa using h1
  have h' : FloatKind.f64.format.order x c ≠ some .gt := datum_mono (Ieee.double.read x) (Ieee.double.read b) (Ieee.double.read c) h1' h2
  simpa using h'

theorem idx_before (v : Nat) (bs : List Nat) : ∀ j, j < idx v bs → gtB v (bs.getD j 0) = true := by
  induction bs with
  | nil => intro j hj; exact absurd hj (Nat.not_lt_zero _)
  | cons b bs ih =>
    intro j hj
    unfold idx at hj
    by_cases hb : gtB v b = true
    · rw [if_pos hb] at hj
      cases j with
      | zero => simpa using hb
      | succ j => have := ih j (by omega); simpa using this
    · rw [if_neg hb] at hj; exact absurd hj (Nat.not_lt_zero _)

theorem idx_at (v : Nat) (bs : List Nat) : idx v bs < bs.length → gtB v (bs.getD (idx v bs) 0) = false := by
  induction bs with
  | nil => intro h; exact absurd h (Nat.not_lt_zero _)
  | cons b bs ih =>
    intro h
    by_cases hb : gtB v b = true
    · have e : idx v (b :: bs) = idx v bs + 1 := by show (if gtB v b = true then _ else _) = _; rw [if_pos hb]
      rw [e] at h ⊢
      have := ih (by simpa using h)
      simpa using this
    · have e : idx v (b :: bs) = 0 := by show (if gtB v b = true then _ else _) = _; rw [if_neg hb]
      rw [e]
      simpa using hb

/-- In ascending bounds an observation falls at or below bucket j just where it is not above bound j. -/
theorem idx_le_iff (v : Nat) (bs : List Nat) (hs : ∀ i, i + 1 < bs.length → FloatKind.f64.format.order (bs.getD i 0) (bs.getD (i + 1) 0) = some .lt) (j : Nat) (hj : j < bs.length) : idx v bs < j + 1 ↔ gtB v (bs.getD j 0) = false := by
  constructor
  · intro h
    have key : ∀ d, idx v bs + d < bs.length → gtB v (bs.getD (idx v bs + d) 0) = false := by
      intro d
      induction d with
      | zero => intro hd; exact idx_at v bs hd
      | succ d ih => intro hd; exact gtB_mono (ih (by omega)) (hs _ (by omega))
    have := key (j - idx v bs) (by omega)
    rwa [show idx v bs + (j - idx v bs) = j by omega] at this
  · intro h
    by_cases hlt : idx v bs < j + 1
    · exact hlt
    · have := idx_before v bs j (by omega)
      rw [this] at h
      cases h

/-- How many of xs are not above b. -/
def notAbove (b : Nat) (xs : List Nat) : Nat := (xs.filter fun x => !gtB x b).length

theorem notAbove_snoc (b : Nat) (xs : List Nat) (x : Nat) : notAbove b (xs ++ [x]) = notAbove b xs + if gtB x b = true then 0 else 1 := by
  unfold notAbove
  rw [List.filter_append]
  cases h : gtB x b <;> simp [h]

theorem notAbove_le (b : Nat) (xs : List Nat) : notAbove b xs ≤ xs.length := List.length_filter_le _ _

theorem notAbove_is (bs xs : List Nat) (hs : ∀ i, i + 1 < bs.length → FloatKind.f64.format.order (bs.getD i 0) (bs.getD (i + 1) 0) = some .lt) (j : Nat) (hj : j < bs.length) : notAbove (bs.getD j 0) xs = below bs xs (j + 1) := by
  unfold notAbove below
  congr 2
  funext x
  have := idx_le_iff x bs hs j hj
  cases h : gtB x (bs.getD j 0)
  · simp [this.2 h]
  · have hn : ¬ idx x bs < j + 1 := fun hh => by rw [this.1 hh] at h; cases h
    simp [hn]

end Go.Proofs.Qxb6626327a.Plain
namespace Go.Proofs.Qxb6626327a.Mem
open Plain
theorem Tot.diff {bs zs rest : List Nat} {m : Nat} {a b c : Int} (h : Tot bs zs rest m a b c) (hz : zs.length ≤ 65536) : IntKind.u64.wrap (b - a) = (below bs zs m : Int) := by
  have := below_le bs zs m
  rw [h.1]
  simp only [IntKind.wrap_u64]
  omega
end Go.Proofs.Qxb6626327a.Mem
