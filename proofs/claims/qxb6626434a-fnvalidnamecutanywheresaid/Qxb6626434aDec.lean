import Derived.Test.Qxb6626434aLen
namespace Go.Proofs.Qxb6626434a.Dec
open Go.RowKit Name
set_option linter.unusedVariables false

/-- How far the numeral has come: n is the place of the last digit written, q what is left. -/
def Far (n q : Nat) : Prop := (n = 24 ∧ 1 ≤ q ∧ q ≤ 4096) ∨ (n = 23 ∧ q ≤ 409) ∨ (n = 22 ∧ q ≤ 40) ∨ (n = 21 ∧ q ≤ 4) ∨ (n = 20 ∧ q = 0)

/-- Cells n .. 23 hold digits. -/
def Digits (f : Nat → Value) (n : Nat) : Prop := ∀ j, n ≤ j → j < 24 → ∃ c : Int, f j = .int .u8 c ∧ 48 ≤ c ∧ c ≤ 57

theorem digits_set {f : Nat → Value} {n : Nat} (h : Digits f (n + 1)) (c : Int) (h1 : 48 ≤ c) (h2 : c ≤ 57) : Digits (fun j => if j = n then .int .u8 c else f j) n := by
  intro j hj hlt
  by_cases e : j = n
  · exact ⟨c, by simp [e], h1, h2⟩
  · obtain ⟨d, hd, hb⟩ := h j (by omega) hlt
    exact ⟨d, by simp [e, hd], hb⟩

/-- What the cells from n on read as: a name. -/
theorem digits_name {f : Nat → Value} {n : Nat} (h : Digits f n) (hn : n < 24) : ∃ xs : List Int, xs.length = 24 - n ∧ (∀ i, i < 24 - n → f (n + i) = .int .u8 (xs.getD i 0)) ∧ vB (strOfNums xs).data.toList = true := by
  have hex : ∀ i, i < 24 - n → ∃ c : Int, f (n + i) = .int .u8 c ∧ 48 ≤ c ∧ c ≤ 57 := fun i hi => h (n + i) (by omega) (by omega)
  have key : ∀ m, m ≤ 24 - n → ∃ xs : List Int, xs.length = m ∧ (∀ i, i < m → f (n + i) = .int .u8 (xs.getD i 0)) ∧ ∀ c ∈ xs, 48 ≤ c ∧ c ≤ 57 := by
    intro m
    induction m with
    | zero => intro _; exact ⟨[], rfl, fun i hi => absurd hi (Nat.not_lt_zero _), fun c hc => by cases hc⟩
    | succ m ih =>
      intro hm
      obtain ⟨xs, hl, hf, hb⟩ := ih (by omega)
      obtain ⟨c, hc, hcb⟩ := hex m (by omega)
      refine ⟨xs ++ [c], by simp [hl], fun i hi => ?_, fun d hd => ?_⟩
      · by_cases e : i = m
        · subst e; rw [hc]; simp [← hl]
        · rw [hf i (by omega)]; simp [List.getElem?_append_left (show i < xs.length by omega)]
      · rcases List.mem_append.1 hd with hd | hd
        · exact hb d hd
        · simp at hd; subst hd; exact hcb
  obtain ⟨xs, hl, hf, hb⟩ := key (24 - n) (Nat.le_refl _)
  refine ⟨xs, hl, hf, ?_⟩
  unfold vB lenB
  rw [strOfNums_data]
  have ha : allB (xs.map fun n => UInt8.ofNat n.toNat) = true := by
    unfold allB
    rw [List.all_eq_true]
    intro b hbm
    obtain ⟨c, hc, rfl⟩ := List.mem_map.1 hbm
    have hcb := hb c hc
    have e : (UInt8.ofNat c.toNat).toNat = c.toNat := by
      rw [UInt8.toNat_ofNat']
      omega
    rw [e]
    unfold nbI
    simp
    omega
  rw [ha]
  simp [hl]
  omega

theorem rowOf (w : World) (c : Array Value) (t : TypeId) : ∃ f, (w.alloc (.cells c t)).rowIs w.heap.size t c.size f :=
  ⟨fun i => c.getD i undef, World.rowIs_alloc w c t _ (fun i hi => by simp [Array.getD, hi])⟩

set_option maxHeartbeats 2000000 in
theorem dec_pos (k : Nat) (h0 : 1 ≤ k) (h1 : k ≤ 4096) (w : World) :
    Calls Try.prog 8 #[.int .i64 k] w fun e w' => ∃ s : ByteArray, e = .returned (.string s) ∧ vB s.data.toList = true ∧ s.size ≤ 24 ∧ Below w.heap.size w w' := by
  have t0 : ¬ (k : Int) ≤ 0 := by omega
  go_enter Try.func8, Try.ntmps8
  go_wp2
  go_loopw [0, 4] (fun kk i wr => ∃ (n q : Nat) (f : Nat → Value), kk = .int .i64 q ∧ i = .int .i64 n ∧ Far n q ∧ Below w.heap.size w wr ∧ wr.rowIs w.heap.size 27 24 f ∧ Digits f n) (fun kk _ _ => (intOf kk).toNat)
  case atStart =>
    obtain ⟨f0, hf0⟩ := rowOf w #[.int .u8 0, .int .u8 0, .int .u8 0, .int .u8 0, .int .u8 0, .int .u8 0, .int .u8 0, .int .u8 0, .int .u8 0, .int .u8 0, .int .u8 0, .int .u8 0, .int .u8 0, .int .u8 0, .int .u8 0, .int .u8 0, .int .u8 0, .int .u8 0, .int .u8 0, .int .u8 0, .int .u8 0, .int .u8 0, .int .u8 0, .int .u8 0] 27
    exact ⟨24, k, f0, rfl, rfl, Or.inl ⟨rfl, h0, h1⟩, (Below.refl _ _).alloc (Nat.le_refl _) _, hf0, fun j h h' => by omega⟩
  case round =>
    obtain ⟨n, q, f, rfl, rfl, hfar, hbel, hrow, hdig⟩ := hrel
    by_cases hq : 0 < q
    · have hq' : (0 : Int) < (q : Int) := by omega
      unfold Far at hfar
      have hr1 : (0 : Int) ≤ (q : Int) % 10 := by omega
      have hr2 : (q : Int) % 10 ≤ 9 := by omega
      rcases hfar with ⟨rfl, -, b1⟩ | ⟨rfl, b1⟩ | ⟨rfl, b1⟩ | ⟨rfl, b1⟩ | ⟨rfl, b1⟩
      · have hold := hrow.cell (i := 23) (by omega)
        have hfr := hrow.frozen 23
        have HB : Hid (Below w.heap.size w wr) := hbel
        have HRow : Hid (wr.rowIs w.heap.size 27 24 f) := hrow
        have HD : Hid (Digits f 24) := hdig
        clear hbel hrow hdig
        go_wp2
        go_roundw
        case rel => exact ⟨23, q / 10, _, by go_num, rfl, by unfold Far; omega, HB.out.setCell (Nat.le_refl _) _, HRow.out.set 23 _, digits_set HD.out _ (by omega) (by omega)⟩
        case measure => simp [intOf]; omega
      · have hold := hrow.cell (i := 22) (by omega)
        have hfr := hrow.frozen 22
        have HB : Hid (Below w.heap.size w wr) := hbel
        have HRow : Hid (wr.rowIs w.heap.size 27 24 f) := hrow
        have HD : Hid (Digits f 23) := hdig
        clear hbel hrow hdig
        go_wp2
        go_roundw
        case rel => exact ⟨22, q / 10, _, by go_num, rfl, by unfold Far; omega, HB.out.setCell (Nat.le_refl _) _, HRow.out.set 22 _, digits_set HD.out _ (by omega) (by omega)⟩
        case measure => simp [intOf]; omega
      · have hold := hrow.cell (i := 21) (by omega)
        have hfr := hrow.frozen 21
        have HB : Hid (Below w.heap.size w wr) := hbel
        have HRow : Hid (wr.rowIs w.heap.size 27 24 f) := hrow
        have HD : Hid (Digits f 22) := hdig
        clear hbel hrow hdig
        go_wp2
        go_roundw
        case rel => exact ⟨21, q / 10, _, by go_num, rfl, by unfold Far; omega, HB.out.setCell (Nat.le_refl _) _, HRow.out.set 21 _, digits_set HD.out _ (by omega) (by omega)⟩
        case measure => simp [intOf]; omega
      · have hold := hrow.cell (i := 20) (by omega)
        have hfr := hrow.frozen 20
        have HB : Hid (Below w.heap.size w wr) := hbel
        have HRow : Hid (wr.rowIs w.heap.size 27 24 f) := hrow
        have HD : Hid (Digits f 21) := hdig
        clear hbel hrow hdig
        go_wp2
        go_roundw
        case rel => exact ⟨20, q / 10, _, by go_num, rfl, by unfold Far; omega, HB.out.setCell (Nat.le_refl _) _, HRow.out.set 20 _, digits_set HD.out _ (by omega) (by omega)⟩
        case measure => simp [intOf]; omega
      · omega
    · have hq0 : q = 0 := by omega
      subst hq0
      have hn : 20 ≤ n ∧ n < 24 := by unfold Far at hfar; omega
      obtain ⟨xs, hl, hxs, hv⟩ := digits_name hdig hn.2
      have hcv := run_convert_bytes_arg (P := Try.prog) wr 23 5 Try.underlying23 Try.underlying5 w.heap.size n (24 - n) (24 - n) xs hl (fun i hi => by rw [hrow.cell (i := n + i) (by omega)]; exact congrArg some (hxs i hi)) 9 Try.underlying9
      have HB : Hid (Below w.heap.size w wr) := hbel
      have HV : Hid (vB (strOfNums xs).data.toList = true) := hv
      have HL : Hid (xs.length = 24 - n) := hl
      have b1 : (n : Int) ≤ 24 := by omega
      clear hbel hrow hdig hxs hv hl
      go_wp2
      go_ret
      exact ⟨_, rfl, HV.out, by rw [strOfNums_size, HL.out]; omega, HB.out⟩

theorem dec_zero (w : World) : Calls Try.prog 8 #[.int .i64 0] w fun e w' => ∃ s : ByteArray, e = .returned (.string s) ∧ vB s.data.toList = true ∧ s.size ≤ 24 ∧ Below w.heap.size w w' := by
  go_enter Try.func8, Try.ntmps8
  go_wp2
  go_ret
  exact ⟨⟨#[48]⟩, rfl, by simp [vB, lenB, allB, nbI], by show (1 : Nat) ≤ 24; omega, Below.refl _ _⟩

end Go.Proofs.Qxb6626434a.Dec
