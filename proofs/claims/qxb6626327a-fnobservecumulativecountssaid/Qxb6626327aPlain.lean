/-
  Histograms as plain data: where an observation falls, how many fall where, the sums that a fold may give, arithmetic modulo 2^64. No Go text.
-/
import Derived.WalkKit
import Derived.Laws.FloatArith
namespace Go.Proofs.Qxb6626327a.Plain

/-! ### Floats, by their bits -/

/-- 'v > b' -/
def gtB (v b : Nat) : Bool := FloatKind.f64.format.order v b == some .gt

def nan (x : Nat) : Prop := (Ieee.double.read x).isNaN = true

/-- r may be what 'x + y' gives: the rounded sum, or some NaN where there is none. -/
def FAdd (x y r : Nat) : Prop := FloatKind.f64.format.add x y = some r ∨ (FloatKind.f64.format.add x y = none ∧ nan r)

/-- One number, or two NaNs. -/
def Same (a b : Nat) : Prop := a = b ∨ (nan a ∧ nan b)

/-- r may be what adding xs to s, from left to right, gives. -/
def Sums (s : Nat) : List Nat → Nat → Prop
  | [], r => r = s
  | x :: xs, r => ∃ m, FAdd s x m ∧ Sums m xs r

theorem sums_snoc (xs : List Nat) : ∀ (s x m r : Nat), Sums s xs m → FAdd m x r → Sums s (xs ++ [x]) r := by
  induction xs with
  | nil => intro s x m r h1 h2; simp only [Sums] at h1; subst h1; exact ⟨r, h2, rfl⟩
  | cons y ys ih =>
    intro s x m r h1 h2
    obtain ⟨k, hk, hs⟩ := h1
    exact ⟨k, hk, ih k x m r hs h2⟩

theorem add_nan {x : Nat} (h : nan x) (y : Nat) : FloatKind.f64.format.add x y = none := by
  unfold nan at h
  show (((Ieee.double.read x).sum (Ieee.double.read y)).map _) = none
  cases hx : Ieee.double.read x with
  | number s m e => rw [hx] at h; simp [Ieee.Datum.isNaN] at h
  | infinity s => rw [hx] at h; simp [Ieee.Datum.isNaN] at h
  | nan s f => simp [Ieee.Datum.sum]

theorem FAdd.same {x x' y r r' : Nat} (hx : Same x x') (h : FAdd x y r) (h' : FAdd x' y r') : Same r r' := by
  rcases hx with rfl | ⟨n1, n2⟩
  · rcases h with h | ⟨h, hn⟩ <;> rcases h' with h' | ⟨h', hn'⟩
    · rw [h] at h'; exact Or.inl (Option.some.inj h')
    · rw [h] at h'; cases h'
    · rw [h] at h'; cases h'
    · exact Or.inr ⟨hn, hn'⟩
  · have e1 := add_nan n1 y
    have e2 := add_nan n2 y
    rcases h with h | ⟨_, hn⟩
    · rw [e1] at h; cases h
    · rcases h' with h' | ⟨_, hn'⟩
      · rw [e2] at h'; cases h'
      · exact Or.inr ⟨hn, hn'⟩

theorem sums_same (xs : List Nat) : ∀ {s s' r r' : Nat}, Same s s' → Sums s xs r → Sums s' xs r' → Same r r' := by
  induction xs with
  | nil => intro s s' r r' h h1 h2; simp only [Sums] at h1 h2; subst h1 h2; exact h
  | cons x xs ih =>
    intro s s' r r' h ⟨m, hm, h1⟩ ⟨m', hm', h2⟩
    exact ih (FAdd.same h hm hm') h1 h2

theorem order_nan {x : Nat} (h : nan x) (y : Nat) : FloatKind.f64.format.order x y = none := by
  unfold nan at h
  show (Ieee.double.read x).order (Ieee.double.read y) = none
  cases hx : Ieee.double.read x with
  | number s m e => rw [hx] at h; simp [Ieee.Datum.isNaN] at h
  | infinity s => rw [hx] at h; simp [Ieee.Datum.isNaN] at h
  | nan s f => simp [Ieee.Datum.order]

/-- What the tape answers for a NaN's bits is a NaN. -/
theorem nan_cut (x y t : Nat) : nan (Question.cut (.nanBits .f64 x y) t) := by
  have e : Question.cut (.nanBits .f64 x y) t = (t % 2) * 9223372036854775808 + 9218868437227405312 + 1 + (t / 2) % 4503599627370495 := rfl
  rw [e]
  obtain ⟨b, hb, hlt⟩ : ∃ b, t % 2 = b ∧ b < 2 := ⟨_, rfl, by omega⟩
  obtain ⟨f, hf, hfl⟩ : ∃ f, (t / 2) % 4503599627370495 = f ∧ f < 4503599627370495 := ⟨_, rfl, Nat.mod_lt _ (by omega)⟩
  rw [hb, hf]
  have e1 : (b * 9223372036854775808 + 9218868437227405312 + 1 + f) % 9223372036854775808 = 9218868437227405313 + f := by omega
  unfold nan Ieee.Format.read
  have w : Ieee.double.signWeight = 9223372036854775808 := rfl
  have bi : Ieee.double.binade = 4503599627370496 := rfl
  have ir : Ieee.double.infRung = 9218868437227405312 := rfl
  simp only [w, bi, ir, e1]
  rw [if_neg (by omega), if_neg (by omega), if_neg (by omega)]
  rfl

/-! ### Where an observation falls -/

def idx (v : Nat) : List Nat → Nat
  | [] => 0
  | b :: bs => if gtB v b = true then idx v bs + 1 else 0

theorem idx_le (v : Nat) (bs : List Nat) : idx v bs ≤ bs.length := by
  induction bs with
  | nil => exact Nat.le_refl _
  | cons b bs ih => unfold idx; split <;> simp <;> omega

theorem idx_is (v : Nat) (bs : List Nat) : ∀ k, k ≤ bs.length → (∀ j, j < k → gtB v (bs.getD j 0) = true) → (k < bs.length → gtB v (bs.getD k 0) = false) → idx v bs = k := by
  induction bs with
  | nil => intro k hk _ _; simp at hk; subst hk; rfl
  | cons b bs ih =>
    intro k hk h1 h2
    cases k with
    | zero =>
      have := h2 (by simp)
      simp at this
      unfold idx
      rw [if_neg (by rw [this]; simp)]
    | succ k =>
      have h0 := h1 0 (by omega)
      simp at h0
      unfold idx
      rw [if_pos h0, ih k (by simpa using hk) (fun j hj => by have := h1 (j + 1) (by omega); simpa using this) (fun h => by have := h2 (by simpa using h); simpa using this)]

/-- How many of xs fall into bucket j. -/
def cnt (bs xs : List Nat) (j : Nat) : Nat := (xs.filter fun x => idx x bs == j).length

/-- How many fall into a bucket below n. -/
def below (bs xs : List Nat) (n : Nat) : Nat := (xs.filter fun x => decide (idx x bs < n)).length

theorem cnt_append (bs xs ys : List Nat) (j : Nat) : cnt bs (xs ++ ys) j = cnt bs xs j + cnt bs ys j := by
  simp [cnt, List.filter_append]

theorem cnt_snoc (bs xs : List Nat) (x j : Nat) : cnt bs (xs ++ [x]) j = cnt bs xs j + if j = idx x bs then 1 else 0 := by
  rw [cnt_append]
  unfold cnt
  by_cases h : j = idx x bs
  · simp [h]
  · have : (idx x bs == j) = false := by simp; omega
    simp [this, h]

theorem below_zero (bs xs : List Nat) : below bs xs 0 = 0 := by simp [below]

theorem below_succ (bs xs : List Nat) (n : Nat) : below bs xs (n + 1) = below bs xs n + cnt bs xs n := by
  unfold below cnt
  induction xs with
  | nil => rfl
  | cons x xs ih =>
    simp only [List.filter_cons]
    by_cases h1 : idx x bs < n
    · rw [if_pos (by simp; omega), if_pos (by simp; omega), if_neg (by simp; omega)]
      simp only [List.length_cons]
      omega
    · by_cases h2 : idx x bs = n
      · rw [if_pos (by simp; omega), if_neg (by simp; omega), if_pos (by simp; omega)]
        simp only [List.length_cons]
        omega
      · rw [if_neg (by simp; omega), if_neg (by simp; omega), if_neg (by simp; omega)]
        exact ih

theorem below_all (bs xs : List Nat) (n : Nat) (hn : bs.length < n) : below bs xs n = xs.length := by
  unfold below
  rw [List.filter_eq_self.2]
  intro x _
  have := idx_le x bs
  simp
  omega

theorem below_le (bs xs : List Nat) (n : Nat) : below bs xs n ≤ xs.length := List.length_filter_le _ _
theorem cnt_le (bs xs : List Nat) (n : Nat) : cnt bs xs n ≤ xs.length := List.length_filter_le _ _

end Go.Proofs.Qxb6626327a.Plain
