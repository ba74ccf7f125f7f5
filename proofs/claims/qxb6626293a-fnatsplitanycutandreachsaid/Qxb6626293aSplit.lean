import Derived.Test.Qxb6626293aTo
import Derived.Test.Qxb6626293aAt
import Derived.Test.Qxb6626293aSizes
import Derived.Test.Qxb6626293aSameSet
namespace Go.Proofs.Qxb6626293a.Split
open Go.RowKit Mem
set_option linter.unusedVariables false

/-- Either some set reaches the slot, the last such at j, or none does. -/
theorem last_or (l : List MSet) (s : Int) : (∃ (j : Nat) (hj : j < l.length), l[j].frm ≤ s ∧ ∀ i (hi : i < l.length), j < i → s < l[i].frm) ∨ ∀ i (hi : i < l.length), s < l[i].frm := by
  have key : ∀ n, n ≤ l.length → (∃ (j : Nat) (hj : j < l.length), l[j].frm ≤ s ∧ ∀ i (hi : i < l.length), j < i → s < l[i].frm) ∨ ∀ i (hi : i < l.length), l.length - n ≤ i → s < l[i].frm := by
    intro n
    induction n with
    | zero => intro _; exact Or.inr fun i hi h => by omega
    | succ n ih =>
      intro hn
      rcases ih (by omega) with h | h
      · exact Or.inl h
      · by_cases hc : (l[l.length - (n + 1)]'(by omega)).frm ≤ s
        · exact Or.inl ⟨l.length - (n + 1), by omega, hc, fun i hi hlt => h i hi (by omega)⟩
        · refine Or.inr fun i hi hge => ?_
          by_cases e : i = l.length - (n + 1)
          · subst e; omega
          · exact h i hi (by omega)
  rcases key l.length (Nat.le_refl _) with h | h
  · exact Or.inl h
  · exact Or.inr fun i hi => h i hi (by omega)

theorem to_len (A : Option Addr) (l : List MSet) (n cap : Nat) (w : World) (he : l.length = n) (hz : Sets w A l) (hn : n ≤ 16384) (hs : ∀ j (hj : j < l.length), l[j].mem.length ≤ 1048576 ∧ l[j].val.length ≤ 1048576) :
    Calls Try.prog 7 #[.slice A n cap] w fun e w' => e = .returned (.slice (some ⟨w.heap.size, 0, none⟩) n n) ∧ Sets w' (some ⟨w.heap.size, 0, none⟩) l ∧ Below w.heap.size w w' := by
  subst he
  exact To.to_any A l cap w hz hn hs

theorem at_len (A : Option Addr) (l : List MSet) (n cap : Nat) (slot : Int) (w : World) (he : l.length = n) (hz : Sets w A l) (hn : n ≤ 16384) :
    Calls Try.prog 8 #[.slice A n cap, .int .u64 slot] w (At.AtPost l slot w) := by
  subst he
  exact At.at_any A l cap slot w hz hn

theorem small_take {l : List MSet} (k : Nat) (hs : ∀ j (hj : j < l.length), l[j].mem.length ≤ 1048576 ∧ l[j].val.length ≤ 1048576) : ∀ j (hj : j < (l.take k).length), (l.take k)[j].mem.length ≤ 1048576 ∧ (l.take k)[j].val.length ≤ 1048576 := by
  intro j hj
  rw [List.getElem_take]
  exact hs j _

theorem small_drop {l : List MSet} (k : Nat) (hs : ∀ j (hj : j < l.length), l[j].mem.length ≤ 1048576 ∧ l[j].val.length ≤ 1048576) : ∀ j (hj : j < (l.drop k).length), (l.drop k)[j].mem.length ≤ 1048576 ∧ (l.drop k)[j].val.length ≤ 1048576 := by
  intro j hj
  rw [List.getElem_drop]
  exact hs (k + j) _

theorem sets_take {w : World} {A : Option Addr} {l : List MSet} (h : Sets w A l) (k : Nat) : Sets w A (l.take k) := by
  rcases h with h | ⟨b, off, hA, hc⟩
  · exact Or.inl (by rw [h]; simp)
  · exact Or.inr ⟨b, off, hA, fun i hi => by rw [List.getElem_take]; exact hc i _⟩

theorem sets_drop {w : World} {b off : Nat} {l : List MSet} (h : ∀ i (hi : i < l.length), SetAt w b (off + i * 5) l[i]) (k : Nat) : Sets w (some ⟨b, off + k * 5, none⟩) (l.drop k) :=
  Or.inr ⟨b, off + k * 5, rfl, fun i hi => by
    rw [List.getElem_drop]
    have := h (k + i) (by rw [List.length_drop] at hi; omega)
    rwa [show off + k * 5 + i * 5 = off + (k + i) * 5 by omega]⟩

theorem at_is {l : List MSet} {slot : Int} {w w' : World} {e : Ending} (h : At.AtPost l slot w e w') (t : MSet) (k : Nat) (hk : k < l.length) (ht : l[k] = t) (h1 : t.frm ≤ slot) (h2 : ∀ j (hj : j < l.length), k < j → slot < l[j].frm) :
    Below w.heap.size w w' ∧ ∃ (M V : Option Addr) (c d : Nat), e = .returned (.tuple #[.agg #[.slice M t.mem.length c, .int .u64 t.frm, .int .u64 t.idx, .int .i64 t.win, .slice V t.val.length d], .bool true]) ∧
      Ints w' .i64 M t.mem ∧ Ints w' .u8 V t.val := by
  subst ht
  exact h.is k hk h1 h2

theorem at_some {l : List MSet} {slot : Int} {w w' : World} {e : Ending} (h : At.AtPost l slot w e w') :
    Below w.heap.size w w' ∧ ∃ (M V : Option Addr) (n c m d : Nat) (f i g : Int) (r : Bool), e = .returned (.tuple #[.agg #[.slice M n c, .int .u64 f, .int .u64 i, .int .i64 g, .slice V m d], .bool r]) := by
  obtain ⟨hb, ⟨k', hk', M, V, c, d, he, _⟩ | ⟨he, _⟩⟩ := h
  · exact ⟨hb, M, V, _, c, _, d, _, _, _, true, he⟩
  · exact ⟨hb, none, none, 0, 0, 0, 0, 0, 0, 0, false, he⟩

theorem throughA {w2 w3 : World} {o : Obj} (hb : Below (w2.alloc o).heap.size (w2.alloc o) w3) : Below w2.heap.size w2 w3 :=
  ((Below.refl _ _).alloc (Nat.le_refl _) o).trans (hb.mono (by simp))

theorem sizeA {w2 w3 : World} {o : Obj} (hb : Below (w2.alloc o).heap.size (w2.alloc o) w3) : w2.heap.size < w3.heap.size := by
  have := hb.size
  simp at this
  omega

/-- A variable of five cells that the call has made, read in a later world. -/
def Five (w : World) (b : Nat) (v0 v1 v2 v3 v4 : Value) : Prop :=
  w.cell? ⟨b, 0, none⟩ = some v0 ∧ w.cell? ⟨b, 1, none⟩ = some v1 ∧ w.cell? ⟨b, 2, none⟩ = some v2 ∧ w.cell? ⟨b, 3, none⟩ = some v3 ∧ w.cell? ⟨b, 4, none⟩ = some v4

theorem Five.later {w w' : World} {b : Nat} {v0 v1 v2 v3 v4 : Value} (h : Five w b v0 v1 v2 v3 v4) (hb : Below w.heap.size w w') : Five w' b v0 v1 v2 v3 v4 :=
  ⟨cellLater h.1 hb, cellLater h.2.1 hb, cellLater h.2.2.1 hb, cellLater h.2.2.2.1 hb, cellLater h.2.2.2.2 hb⟩

theorem five_new {w2 w3 : World} {v0 v1 v2 v3 v4 : Value} {t : TypeId} (hb : Below (w2.alloc (.cells #[v0, v1, v2, v3, v4] t)).heap.size (w2.alloc (.cells #[v0, v1, v2, v3, v4] t)) w3) : Five w3 w2.heap.size v0 v1 v2 v3 v4 := by
  refine ⟨cellLater ?_ hb, cellLater ?_ hb, cellLater ?_ hb, cellLater ?_ hb, cellLater ?_ hb⟩ <;> simp

theorem sameIn_eq (r : Bool) (s t : MSet) (hr : SameSet.sameS s t = r) (A B A' B' : Option Addr) (c d c' d' : Nat) (w : World) (hs : Lies w s A B) (ht : Lies w t A' B') :
    Calls Try.prog 11 #[.agg #[.slice A s.mem.length c, .int .u64 s.frm, .int .u64 s.idx, .int .i64 s.win, .slice B s.val.length d], .agg #[.slice A' t.mem.length c', .int .u64 t.frm, .int .u64 t.idx, .int .i64 t.win, .slice B' t.val.length d']] w fun e w' => e = .returned (.bool r) ∧ Below w.heap.size w w' := by
  subst hr
  exact SameSet.sameIn_any s t A B A' B' c d c' d' w hs ht

set_option maxHeartbeats 8000000 in
theorem split_back (b off : Nat) (l : List MSet) (cap k : Nat) (s : Int) (w : World) (hz : ∀ i (hi : i < l.length), SetAt w b (off + i * 5) l[i]) (hcap : l.length ≤ cap) (hn : l.length ≤ 9223372036854775807) (hk : k ≤ l.length) (hs : 0 ≤ s ∧ s ≤ 18446744073709551615) (t : MSet) (j : Nat) (hj : j < l.length) (ht : l[j] = t) (hjk : k ≤ j) (hle : t.frm ≤ s) (hall : ∀ i (hi : i < l.length), j < i → s < l[i].frm) :
    Calls Try.prog 3 #[.slice (some ⟨b, off, none⟩) l.length cap, .int .i64 k, .int .u64 s] w fun e w' => e = .returned (.bool true) ∧ Below w.heap.size w w' := by
  have HC : Hid (∀ i (hi : i < l.length), SetAt w b (off + i * 5) l[i]) := hz
  have HZ : Hid (Sets w (some ⟨b, off, none⟩) l) := Or.inr ⟨b, off, rfl, hz⟩
  have hkl : (k : Int) ≤ (l.length : Int) := by omega
  have hkc : (k : Int) ≤ (cap : Int) := by omega
  obtain ⟨s0, s1⟩ := hs
  have HD : Hid (Sets w (some ⟨b, off + k * 5, none⟩) (l.drop k)) := sets_drop hz k
  clear hz
  have HALL : Hid (∀ i (hi : i < l.length), j < i → s < l[i].frm) := hall
  have HT : Hid (l[j] = t) := ht
  clear hall ht
  go_enter Try.func3, Try.ntmps3
  go_wp2_with fail
  refine (Sizes.zz5_any _ l cap _ _ _ HZ.out hn).mono ?_
  rintro e w' ⟨rfl, r, rfl, -⟩
  cases r
  · go_wp2
    go_ret
    exact ⟨rfl, Below.refl _ _⟩
  go_wp2_with fail
  refine (Sizes.size_any _ l cap _ HZ.out hn).mono ?_
  rintro e w' ⟨rfl, r, rfl, hr⟩
  cases r
  · go_wp2
    go_ret
    exact ⟨rfl, Below.refl _ _⟩
  have HS : Hid (Sizes.Small l) := hr rfl
  clear hr
  have hl16 : l.length ≤ 16384 := HS.out.1
  go_wp2_with fail
  refine (to_len _ l _ cap _ rfl HZ.out hl16 HS.out.2).mono ?_
  rintro e w1 ⟨rfl, hS1, hB1⟩
  have HB1 : Hid (Below w.heap.size w w1) := hB1
  have HM1 : Hid (Sets w1 (some ⟨w.heap.size, 0, none⟩) l) := hS1
  clear hB1 hS1
  go_wp2_with fail
  refine (to_len _ (l.take k) k cap _ (by rw [List.length_take]; omega) (sets_take (HZ.out.later HB1.out) k) (by omega) (small_take k HS.out.2)).mono ?_
  rintro e w2 ⟨rfl, hS2, hB2⟩
  have HB2 : Hid (Below w.heap.size w w2) := HB1.out.trans (hB2.mono HB1.out.size)
  have HM2 : Hid (Sets w2 (some ⟨w.heap.size, 0, none⟩) l) := HM1.out.later hB2
  have HF2 : Hid (Sets w2 (some ⟨w1.heap.size, 0, none⟩) (l.take k)) := hS2
  clear hB2 hS2 HB1 HM1
  go_wp2_with fail
  refine (to_len _ (l.drop k) (l.length - k) (cap - k) _ (by rw [List.length_drop]) (HD.out.later HB2.out) (by omega) (small_drop k HS.out.2)).mono ?_
  rintro e w3 ⟨rfl, hS3, hB3⟩
  have HB3 : Hid (Below w.heap.size w w3) := HB2.out.trans (hB3.mono HB2.out.size)
  have HM3 : Hid (Sets w3 (some ⟨w.heap.size, 0, none⟩) l) := HM2.out.later hB3
  have HF3 : Hid (Sets w3 (some ⟨w1.heap.size, 0, none⟩) (l.take k)) := HF2.out.later hB3
  have HR3 : Hid (Sets w3 (some ⟨w2.heap.size, 0, none⟩) (l.drop k)) := hS3
  clear hB3 hS3 HB2 HM2 HF2 HD
  go_wp2_with fail
  refine (at_len _ l l.length l.length s _ rfl HM3.out hl16).mono ?_
  rintro e w4 hp
  obtain ⟨hB4, G0, G1, G2, G3, rfl, hG0, hG1⟩ := at_is hp t j hj HT.out hle HALL.out
  clear hp
  have HB4 : Hid (Below w.heap.size w w4) := HB3.out.trans (hB4.mono HB3.out.size)
  have HF4 : Hid (Sets w4 (some ⟨w1.heap.size, 0, none⟩) (l.take k)) := HF3.out.later hB4
  have HR4 : Hid (Sets w4 (some ⟨w2.heap.size, 0, none⟩) (l.drop k)) := HR3.out.later hB4
  have HG4 : Hid (Ints w4 .i64 G0 t.mem ∧ Ints w4 .u8 G1 t.val) := ⟨hG0, hG1⟩
  clear hG0 hG1
  clear hB4 HB3 HM3 HF3 HR3
  go_wp2_with fail
  refine (at_len _ (l.take k) k k s _ (by rw [List.length_take]; omega) (HF4.out.later ((Below.refl _ _).alloc (Nat.le_refl _) _)) (by omega)).mono ?_
  rintro e w5 hp
  obtain ⟨hB5, F0, F1, f0, f1, f2, f3, f4, f5, f6, fr, rfl⟩ := at_some hp
  clear hp
  have T5 := throughA hB5
  have HB5 : Hid (Below w.heap.size w w5) := HB4.out.trans (T5.mono HB4.out.size)
  have HR5 : Hid (Sets w5 (some ⟨w2.heap.size, 0, none⟩) (l.drop k)) := HR4.out.later T5
  have z5 : w4.heap.size < w5.heap.size := sizeA hB5
  have HV5 : Hid (Five w5 w4.heap.size (.slice G0 t.mem.length G2) (.int .u64 t.frm) (.int .u64 t.idx) (.int .i64 t.win) (.slice G1 t.val.length G3)) := five_new hB5
  have HG5 : Hid (Ints w5 .i64 G0 t.mem ∧ Ints w5 .u8 G1 t.val) := ⟨HG4.out.1.later T5, HG4.out.2.later T5⟩
  clear T5 hB5 HB4 HF4 HR4 HG4
  go_wp2_with fail
  refine (at_len _ (l.drop k) (l.length - k) (l.length - k) s _ (by rw [List.length_drop]) (HR5.out.later ((Below.refl _ _).alloc (Nat.le_refl _) _)) (by omega)).mono ?_
  rintro e w6 hp
  obtain ⟨hB6, R0, R1, R2, R3, rfl, hR0, hR1⟩ := at_is hp t (j - k) (by rw [List.length_drop]; omega) (by rw [List.getElem_drop]; rw [← HT.out]; congr 1; omega) hle (fun i hi h => by rw [List.getElem_drop]; exact HALL.out _ _ (by omega))
  clear hp
  have T6 := throughA hB6
  have HB6 : Hid (Below w.heap.size w w6) := HB5.out.trans (T6.mono HB5.out.size)
  have z6 : w4.heap.size < w6.heap.size := Nat.lt_trans z5 (sizeA hB6)
  have z6' : w5.heap.size < w6.heap.size := sizeA hB6
  have HV6 : Hid (Five w6 w4.heap.size (.slice G0 t.mem.length G2) (.int .u64 t.frm) (.int .u64 t.idx) (.int .i64 t.win) (.slice G1 t.val.length G3)) := HV5.out.later T6
  have HL6 : Hid (Lies w6 t R0 R1) := ⟨hR0, hR1, by rw [← HT.out]; exact (HS.out.2 j hj).1, by rw [← HT.out]; exact (HS.out.2 j hj).2⟩
  clear hR0 hR1
  have HG6 : Hid (Lies w6 t G0 G1) := ⟨HG5.out.1.later T6, HG5.out.2.later T6, by rw [← HT.out]; exact (HS.out.2 j hj).1, by rw [← HT.out]; exact (HS.out.2 j hj).2⟩
  obtain ⟨g0, g1, g2, g3, g4⟩ := HV6.out
  clear T6 hB6 HB5 HR5 HV5 z5 HG5
  go_wp2_with fail
  refine (SameSet.sameMS_self t G0 G1 R0 R1 G2 G3 R2 R3 _ (HG6.out.later ((Below.refl _ _).alloc (Nat.le_refl _) _)) (HL6.out.later ((Below.refl _ _).alloc (Nat.le_refl _) _))).mono ?_
  rintro e w7 ⟨rfl, hB7⟩
  have T7 := throughA hB7
  have HB7 : Hid (Below w.heap.size w w7) := HB6.out.trans (T7.mono HB6.out.size)
  have HV7 : Hid (Five w7 w4.heap.size (.slice G0 t.mem.length G2) (.int .u64 t.frm) (.int .u64 t.idx) (.int .i64 t.win) (.slice G1 t.val.length G3)) := HV6.out.later T7
  have HG7 : Hid (Lies w7 t G0 G1) := HG6.out.later T7
  clear T7 hB7 HB6 HV6 g0 g1 g2 g3 g4 z6 z6' HG6 HL6
  go_wp2
  go_loop [16, 17] (fun r i => ∃ (n : Nat) (x : Bool), n ≤ l.length ∧ i = .int .i64 n ∧ r = .bool x ∧ (j < n → x = true)) (fun _ i => l.length - (intOf i).toNat)
  case atStart => exact ⟨0, false, Nat.zero_le _, rfl, rfl, fun h => absurd h (Nat.not_lt_zero _)⟩
  case round =>
    obtain ⟨n, x, hn', rfl, rfl, hx⟩ := hrel
    have HX : Hid (j < n → x = true) := hx
    clear hx
    by_cases hlt : n < l.length
    · obtain ⟨M, V, c, d, c0, c1, c2, c3, c4, hm, hv⟩ := (HC.out n hlt).later HB7.out
      obtain ⟨y, hy⟩ : ∃ y, l[n].frm = y := ⟨_, rfl⟩
      rw [hy] at c1
      have HY : Hid (l[n].frm = y) := hy
      clear hy c0 c2 c3 c4 hm hv
      by_cases hys : y ≤ s
      · go_wp2
        go_round
        case rel => exact ⟨n + 1, true, hlt, by go_num, rfl, fun _ => rfl⟩
        case measure => simp [intOf]; omega
      · have hjn : j ≠ n := fun e => by subst e; rw [HT.out] at HY; have := HY.out; omega
        go_wp2
        go_round
        case rel => exact ⟨n + 1, x, hlt, by go_num, rfl, fun h => HX.out (by omega)⟩
        case measure => simp [intOf]; omega
    · obtain rfl : x = true := HX.out (by omega)
      obtain ⟨g0, g1, g2, g3, g4⟩ := HV7.out
      go_wp2
      clear g0 g1 g2 g3 g4
      go_loopw [18, 19] (fun r i wr => ∃ (n : Nat) (x : Bool), n ≤ l.length ∧ i = .int .i64 n ∧ r = .bool x ∧ (j < n → x = true) ∧ Below w7.heap.size w7 wr) (fun _ i _ => l.length - (intOf i).toNat)
      case atStart => exact ⟨0, false, Nat.zero_le _, rfl, rfl, fun h => absurd h (Nat.not_lt_zero _), Below.refl _ _⟩
      case round =>
        obtain ⟨n, x, hn', rfl, rfl, hx, hBr⟩ := hrel
        have HX : Hid (j < n → x = true) := hx
        have HBr : Hid (Below w7.heap.size w7 wr) := hBr
        clear hx hBr
        by_cases hlt : n < l.length
        · have hul := HS.out.2 n hlt
          have hcn := (HC.out n hlt).later HB7.out
          have HNT : Hid (n = j → l[n] = t) := fun e => by subst e; exact HT.out
          obtain ⟨u, hu⟩ : ∃ u, l[n] = u := ⟨_, rfl⟩
          rw [hu] at hul hcn HNT
          clear hu
          obtain ⟨M, V, c, d, c0, c1, c2, c3, c4, hm, hv⟩ := hcn.later HBr.out
          have HGr : Hid (Lies wr t G0 G1) := HG7.out.later HBr.out
          have HLr : Hid (Lies wr u M V) := ⟨hm, hv, hul.1, hul.2⟩
          obtain ⟨g0, g1, g2, g3, g4⟩ := HV7.out.later HBr.out
          clear hul hcn hm hv
          have b1 : ((n : Int)) < (l.length : Int) := by omega
          by_cases hsm : SameSet.sameS t u = true
          · have HSM : Hid (SameSet.sameS t u = true) := hsm
            clear hsm
            go_wp2
            go_region_held3 (fun w' => w'.cell? ⟨b, off + n * 5, none⟩ = some (.slice M u.mem.length c) ∧ w'.cell? ⟨b, off + n * 5 + 1, none⟩ = some (.int .u64 u.frm) ∧ w'.cell? ⟨b, off + n * 5 + 2, none⟩ = some (.int .u64 u.idx) ∧ w'.cell? ⟨b, off + n * 5 + 3, none⟩ = some (.int .i64 u.win) ∧ w'.cell? ⟨b, off + n * 5 + 4, none⟩ = some (.slice V u.val.length d) ∧ w'.cell? ⟨w4.heap.size, 0, none⟩ = some (.slice G0 t.mem.length G2) ∧ w'.cell? ⟨w4.heap.size, 1, none⟩ = some (.int .u64 t.frm) ∧ w'.cell? ⟨w4.heap.size, 2, none⟩ = some (.int .u64 t.idx) ∧ w'.cell? ⟨w4.heap.size, 3, none⟩ = some (.int .i64 t.win) ∧ w'.cell? ⟨w4.heap.size, 4, none⟩ = some (.slice G1 t.val.length G3)) (go_keep)
              (first
                | (go_at_call 11; refine (sameIn_eq true t u HSM.out G0 G1 M V G2 G3 c d _ ?_ ?_).mono ?_; (exact HGr.out.later (Below.refl _ _).drew); (exact HLr.out.later (Below.refl _ _).drew); rintro e w8 ⟨rfl, hb8⟩; have T8 : Below wr.heap.size wr w8 := (Below.refl _ _).drew.trans hb8; have k1 := And.intro (cellLater c0 T8) (And.intro (cellLater c1 T8) (And.intro (cellLater c2 T8) (And.intro (cellLater c3 T8) (cellLater c4 T8)))); have k2 := And.intro (cellLater g0 T8) (And.intro (cellLater g1 T8) (And.intro (cellLater g2 T8) (And.intro (cellLater g3 T8) (cellLater g4 T8))))))
            have HN : Hid (Below w7.heap.size w7 w8) := HBr.out.trans (T8.mono HBr.out.size)
            clear k1 k2 T8 hb8 c0 c1 c2 c3 c4 g0 g1 g2 g3 g4
            go_wp2
            go_roundw
            case rel => exact ⟨n + 1, true, hlt, by go_num, rfl, fun _ => rfl, HN.out⟩
            case measure => simp [intOf]; omega
          · have HSM : Hid (SameSet.sameS t u = false) := Bool.eq_false_iff.2 hsm
            have hjn : j ≠ n := fun e => by rw [HNT.out e.symm, SameSet.sameS_self] at HSM; exact absurd HSM.out (by simp)
            clear hsm
            go_wp2
            go_region_held3 (fun w' => w'.cell? ⟨b, off + n * 5, none⟩ = some (.slice M u.mem.length c) ∧ w'.cell? ⟨b, off + n * 5 + 1, none⟩ = some (.int .u64 u.frm) ∧ w'.cell? ⟨b, off + n * 5 + 2, none⟩ = some (.int .u64 u.idx) ∧ w'.cell? ⟨b, off + n * 5 + 3, none⟩ = some (.int .i64 u.win) ∧ w'.cell? ⟨b, off + n * 5 + 4, none⟩ = some (.slice V u.val.length d) ∧ w'.cell? ⟨w4.heap.size, 0, none⟩ = some (.slice G0 t.mem.length G2) ∧ w'.cell? ⟨w4.heap.size, 1, none⟩ = some (.int .u64 t.frm) ∧ w'.cell? ⟨w4.heap.size, 2, none⟩ = some (.int .u64 t.idx) ∧ w'.cell? ⟨w4.heap.size, 3, none⟩ = some (.int .i64 t.win) ∧ w'.cell? ⟨w4.heap.size, 4, none⟩ = some (.slice G1 t.val.length G3)) (go_keep)
              (first
                | (go_at_call 11; refine (sameIn_eq false t u HSM.out G0 G1 M V G2 G3 c d _ ?_ ?_).mono ?_; (exact HGr.out.later (Below.refl _ _).drew); (exact HLr.out.later (Below.refl _ _).drew); rintro e w8 ⟨rfl, hb8⟩; have T8 : Below wr.heap.size wr w8 := (Below.refl _ _).drew.trans hb8; have k1 := And.intro (cellLater c0 T8) (And.intro (cellLater c1 T8) (And.intro (cellLater c2 T8) (And.intro (cellLater c3 T8) (cellLater c4 T8)))); have k2 := And.intro (cellLater g0 T8) (And.intro (cellLater g1 T8) (And.intro (cellLater g2 T8) (And.intro (cellLater g3 T8) (cellLater g4 T8))))))
            have HN : Hid (Below w7.heap.size w7 w8) := HBr.out.trans (T8.mono HBr.out.size)
            clear k1 k2 T8 hb8 c0 c1 c2 c3 c4 g0 g1 g2 g3 g4
            go_wp2
            go_roundw
            case rel => exact ⟨n + 1, x, hlt, by go_num, rfl, fun h => HX.out (by omega), HN.out⟩
            case measure => simp [intOf]; omega
        · obtain rfl : x = true := HX.out (by omega)
          go_wp2
          go_ret
          exact ⟨rfl, HB7.out.trans (HBr.out.mono HB7.out.size)⟩

set_option maxHeartbeats 8000000 in
theorem split_front (b off : Nat) (l : List MSet) (cap k : Nat) (s : Int) (w : World) (hz : ∀ i (hi : i < l.length), SetAt w b (off + i * 5) l[i]) (hcap : l.length ≤ cap) (hn : l.length ≤ 9223372036854775807) (hk : k ≤ l.length) (hs : 0 ≤ s ∧ s ≤ 18446744073709551615) (t : MSet) (j : Nat) (hj : j < l.length) (ht : l[j] = t) (hjk : j < k) (hle : t.frm ≤ s) (hall : ∀ i (hi : i < l.length), j < i → s < l[i].frm) :
    Calls Try.prog 3 #[.slice (some ⟨b, off, none⟩) l.length cap, .int .i64 k, .int .u64 s] w fun e w' => e = .returned (.bool true) ∧ Below w.heap.size w w' := by
  have HC : Hid (∀ i (hi : i < l.length), SetAt w b (off + i * 5) l[i]) := hz
  have HZ : Hid (Sets w (some ⟨b, off, none⟩) l) := Or.inr ⟨b, off, rfl, hz⟩
  have hkl : (k : Int) ≤ (l.length : Int) := by omega
  have hkc : (k : Int) ≤ (cap : Int) := by omega
  obtain ⟨s0, s1⟩ := hs
  obtain ⟨D, hD, hDS⟩ : ∃ D : Addr, (if cap = k then some (⟨b, off, none⟩ : Addr) else some ⟨b, off + k * 5, none⟩) = some D ∧ Sets w (some D) (l.drop k) := by
    by_cases e : cap = k
    · exact ⟨⟨b, off, none⟩, if_pos e, Or.inl (List.drop_eq_nil_of_le (by omega))⟩
    · exact ⟨⟨b, off + k * 5, none⟩, if_neg e, sets_drop hz k⟩
  have HD : Hid (Sets w (some D) (l.drop k)) := hDS
  clear hz hDS
  have HALL : Hid (∀ i (hi : i < l.length), j < i → s < l[i].frm) := hall
  have HT : Hid (l[j] = t) := ht
  clear hall ht
  go_enter Try.func3, Try.ntmps3
  go_wp2_with fail
  refine (Sizes.zz5_any _ l cap _ _ _ HZ.out hn).mono ?_
  rintro e w' ⟨rfl, r, rfl, -⟩
  cases r
  · go_wp2
    go_ret
    exact ⟨rfl, Below.refl _ _⟩
  go_wp2_with fail
  refine (Sizes.size_any _ l cap _ HZ.out hn).mono ?_
  rintro e w' ⟨rfl, r, rfl, hr⟩
  cases r
  · go_wp2
    go_ret
    exact ⟨rfl, Below.refl _ _⟩
  have HS : Hid (Sizes.Small l) := hr rfl
  clear hr
  have hl16 : l.length ≤ 16384 := HS.out.1
  go_wp2_with fail
  refine (to_len _ l _ cap _ rfl HZ.out hl16 HS.out.2).mono ?_
  rintro e w1 ⟨rfl, hS1, hB1⟩
  have HB1 : Hid (Below w.heap.size w w1) := hB1
  have HM1 : Hid (Sets w1 (some ⟨w.heap.size, 0, none⟩) l) := hS1
  clear hB1 hS1
  go_wp2_with fail
  refine (to_len _ (l.take k) k cap _ (by rw [List.length_take]; omega) (sets_take (HZ.out.later HB1.out) k) (by omega) (small_take k HS.out.2)).mono ?_
  rintro e w2 ⟨rfl, hS2, hB2⟩
  have HB2 : Hid (Below w.heap.size w w2) := HB1.out.trans (hB2.mono HB1.out.size)
  have HM2 : Hid (Sets w2 (some ⟨w.heap.size, 0, none⟩) l) := HM1.out.later hB2
  have HF2 : Hid (Sets w2 (some ⟨w1.heap.size, 0, none⟩) (l.take k)) := hS2
  clear hB2 hS2 HB1 HM1
  go_wp2_with fail
  refine (to_len _ (l.drop k) (l.length - k) (cap - k) _ (by rw [List.length_drop]) (HD.out.later HB2.out) (by omega) (small_drop k HS.out.2)).mono ?_
  rintro e w3 ⟨rfl, hS3, hB3⟩
  have HB3 : Hid (Below w.heap.size w w3) := HB2.out.trans (hB3.mono HB2.out.size)
  have HM3 : Hid (Sets w3 (some ⟨w.heap.size, 0, none⟩) l) := HM2.out.later hB3
  have HF3 : Hid (Sets w3 (some ⟨w1.heap.size, 0, none⟩) (l.take k)) := HF2.out.later hB3
  have HR3 : Hid (Sets w3 (some ⟨w2.heap.size, 0, none⟩) (l.drop k)) := hS3
  clear hB3 hS3 HB2 HM2 HF2 hD HD
  go_wp2_with fail
  refine (at_len _ l l.length l.length s _ rfl HM3.out hl16).mono ?_
  rintro e w4 hp
  obtain ⟨hB4, G0, G1, G2, G3, rfl, hG0, hG1⟩ := at_is hp t j hj HT.out hle HALL.out
  clear hp
  have HB4 : Hid (Below w.heap.size w w4) := HB3.out.trans (hB4.mono HB3.out.size)
  have HF4 : Hid (Sets w4 (some ⟨w1.heap.size, 0, none⟩) (l.take k)) := HF3.out.later hB4
  have HR4 : Hid (Sets w4 (some ⟨w2.heap.size, 0, none⟩) (l.drop k)) := HR3.out.later hB4
  have HG4 : Hid (Ints w4 .i64 G0 t.mem ∧ Ints w4 .u8 G1 t.val) := ⟨hG0, hG1⟩
  clear hG0 hG1
  clear hB4 HB3 HM3 HF3 HR3
  go_wp2_with fail
  refine (at_len _ (l.take k) k k s _ (by rw [List.length_take]; omega) (HF4.out.later ((Below.refl _ _).alloc (Nat.le_refl _) _)) (by omega)).mono ?_
  rintro e w5 hp
  obtain ⟨hB5, F0, F1, F2, F3, rfl, hF0, hF1⟩ := at_is hp t j (by rw [List.length_take]; omega) (by rw [List.getElem_take]; exact HT.out) hle (fun i hi h => by rw [List.getElem_take]; exact HALL.out i _ h)
  clear hp
  have T5 := throughA hB5
  have HB5 : Hid (Below w.heap.size w w5) := HB4.out.trans (T5.mono HB4.out.size)
  have HR5 : Hid (Sets w5 (some ⟨w2.heap.size, 0, none⟩) (l.drop k)) := HR4.out.later T5
  have z5 : w4.heap.size < w5.heap.size := sizeA hB5
  have HV5 : Hid (Five w5 w4.heap.size (.slice G0 t.mem.length G2) (.int .u64 t.frm) (.int .u64 t.idx) (.int .i64 t.win) (.slice G1 t.val.length G3)) := five_new hB5
  have HG5 : Hid (Ints w5 .i64 G0 t.mem ∧ Ints w5 .u8 G1 t.val) := ⟨HG4.out.1.later T5, HG4.out.2.later T5⟩
  have HL5 : Hid (Ints w5 .i64 F0 t.mem ∧ Ints w5 .u8 F1 t.val) := ⟨hF0, hF1⟩
  clear hF0 hF1
  clear T5 hB5 HB4 HF4 HR4 HG4
  go_wp2_with fail
  refine (at_len _ (l.drop k) (l.length - k) (l.length - k) s _ (by rw [List.length_drop]) (HR5.out.later ((Below.refl _ _).alloc (Nat.le_refl _) _)) (by omega)).mono ?_
  rintro e w6 hp
  obtain ⟨hB6, rfl⟩ := hp.no (fun i hi => by rw [List.getElem_drop]; exact HALL.out _ _ (by omega))
  clear hp
  have T6 := throughA hB6
  have HB6 : Hid (Below w.heap.size w w6) := HB5.out.trans (T6.mono HB5.out.size)
  have z6 : w4.heap.size < w6.heap.size := Nat.lt_trans z5 (sizeA hB6)
  have z6' : w5.heap.size < w6.heap.size := sizeA hB6
  have HV6 : Hid (Five w6 w4.heap.size (.slice G0 t.mem.length G2) (.int .u64 t.frm) (.int .u64 t.idx) (.int .i64 t.win) (.slice G1 t.val.length G3)) := HV5.out.later T6
  have HX6 : Hid (Five w6 w5.heap.size (.slice F0 t.mem.length F2) (.int .u64 t.frm) (.int .u64 t.idx) (.int .i64 t.win) (.slice F1 t.val.length F3)) := five_new hB6
  have HL6 : Hid (Lies w6 t F0 F1) := ⟨HL5.out.1.later T6, HL5.out.2.later T6, by rw [← HT.out]; exact (HS.out.2 j hj).1, by rw [← HT.out]; exact (HS.out.2 j hj).2⟩
  obtain ⟨x0, x1, x2, x3, x4⟩ := HX6.out
  have HG6 : Hid (Lies w6 t G0 G1) := ⟨HG5.out.1.later T6, HG5.out.2.later T6, by rw [← HT.out]; exact (HS.out.2 j hj).1, by rw [← HT.out]; exact (HS.out.2 j hj).2⟩
  obtain ⟨g0, g1, g2, g3, g4⟩ := HV6.out
  clear T6 hB6 HB5 HR5 HV5 z5 HG5 HL5 HX6
  go_wp2_with fail
  refine (SameSet.sameMS_self t G0 G1 F0 F1 G2 G3 F2 F3 _ (HG6.out.later ((Below.refl _ _).alloc (Nat.le_refl _) _)) (HL6.out.later ((Below.refl _ _).alloc (Nat.le_refl _) _))).mono ?_
  rintro e w7 ⟨rfl, hB7⟩
  have T7 := throughA hB7
  have HB7 : Hid (Below w.heap.size w w7) := HB6.out.trans (T7.mono HB6.out.size)
  have HV7 : Hid (Five w7 w4.heap.size (.slice G0 t.mem.length G2) (.int .u64 t.frm) (.int .u64 t.idx) (.int .i64 t.win) (.slice G1 t.val.length G3)) := HV6.out.later T7
  have HG7 : Hid (Lies w7 t G0 G1) := HG6.out.later T7
  clear T7 hB7 HB6 HV6 g0 g1 g2 g3 g4 z6 z6' HG6 HL6 x0 x1 x2 x3 x4
  go_wp2
  go_loop [16, 17] (fun r i => ∃ (n : Nat) (x : Bool), n ≤ l.length ∧ i = .int .i64 n ∧ r = .bool x ∧ (j < n → x = true)) (fun _ i => l.length - (intOf i).toNat)
  case atStart => exact ⟨0, false, Nat.zero_le _, rfl, rfl, fun h => absurd h (Nat.not_lt_zero _)⟩
  case round =>
    obtain ⟨n, x, hn', rfl, rfl, hx⟩ := hrel
    have HX : Hid (j < n → x = true) := hx
    clear hx
    by_cases hlt : n < l.length
    · obtain ⟨M, V, c, d, c0, c1, c2, c3, c4, hm, hv⟩ := (HC.out n hlt).later HB7.out
      obtain ⟨y, hy⟩ : ∃ y, l[n].frm = y := ⟨_, rfl⟩
      rw [hy] at c1
      have HY : Hid (l[n].frm = y) := hy
      clear hy c0 c2 c3 c4 hm hv
      by_cases hys : y ≤ s
      · go_wp2
        go_round
        case rel => exact ⟨n + 1, true, hlt, by go_num, rfl, fun _ => rfl⟩
        case measure => simp [intOf]; omega
      · have hjn : j ≠ n := fun e => by subst e; rw [HT.out] at HY; have := HY.out; omega
        go_wp2
        go_round
        case rel => exact ⟨n + 1, x, hlt, by go_num, rfl, fun h => HX.out (by omega)⟩
        case measure => simp [intOf]; omega
    · obtain rfl : x = true := HX.out (by omega)
      obtain ⟨g0, g1, g2, g3, g4⟩ := HV7.out
      go_wp2
      clear g0 g1 g2 g3 g4
      go_loopw [18, 19] (fun r i wr => ∃ (n : Nat) (x : Bool), n ≤ l.length ∧ i = .int .i64 n ∧ r = .bool x ∧ (j < n → x = true) ∧ Below w7.heap.size w7 wr) (fun _ i _ => l.length - (intOf i).toNat)
      case atStart => exact ⟨0, false, Nat.zero_le _, rfl, rfl, fun h => absurd h (Nat.not_lt_zero _), Below.refl _ _⟩
      case round =>
        obtain ⟨n, x, hn', rfl, rfl, hx, hBr⟩ := hrel
        have HX : Hid (j < n → x = true) := hx
        have HBr : Hid (Below w7.heap.size w7 wr) := hBr
        clear hx hBr
        by_cases hlt : n < l.length
        · have hul := HS.out.2 n hlt
          have hcn := (HC.out n hlt).later HB7.out
          have HNT : Hid (n = j → l[n] = t) := fun e => by subst e; exact HT.out
          obtain ⟨u, hu⟩ : ∃ u, l[n] = u := ⟨_, rfl⟩
          rw [hu] at hul hcn HNT
          clear hu
          obtain ⟨M, V, c, d, c0, c1, c2, c3, c4, hm, hv⟩ := hcn.later HBr.out
          have HGr : Hid (Lies wr t G0 G1) := HG7.out.later HBr.out
          have HLr : Hid (Lies wr u M V) := ⟨hm, hv, hul.1, hul.2⟩
          obtain ⟨g0, g1, g2, g3, g4⟩ := HV7.out.later HBr.out
          clear hul hcn hm hv
          have b1 : ((n : Int)) < (l.length : Int) := by omega
          by_cases hsm : SameSet.sameS t u = true
          · have HSM : Hid (SameSet.sameS t u = true) := hsm
            clear hsm
            go_wp2
            go_region_held3 (fun w' => w'.cell? ⟨b, off + n * 5, none⟩ = some (.slice M u.mem.length c) ∧ w'.cell? ⟨b, off + n * 5 + 1, none⟩ = some (.int .u64 u.frm) ∧ w'.cell? ⟨b, off + n * 5 + 2, none⟩ = some (.int .u64 u.idx) ∧ w'.cell? ⟨b, off + n * 5 + 3, none⟩ = some (.int .i64 u.win) ∧ w'.cell? ⟨b, off + n * 5 + 4, none⟩ = some (.slice V u.val.length d) ∧ w'.cell? ⟨w4.heap.size, 0, none⟩ = some (.slice G0 t.mem.length G2) ∧ w'.cell? ⟨w4.heap.size, 1, none⟩ = some (.int .u64 t.frm) ∧ w'.cell? ⟨w4.heap.size, 2, none⟩ = some (.int .u64 t.idx) ∧ w'.cell? ⟨w4.heap.size, 3, none⟩ = some (.int .i64 t.win) ∧ w'.cell? ⟨w4.heap.size, 4, none⟩ = some (.slice G1 t.val.length G3)) (go_keep)
              (first
                | (go_at_call 11; refine (sameIn_eq true t u HSM.out G0 G1 M V G2 G3 c d _ ?_ ?_).mono ?_; (exact HGr.out.later (Below.refl _ _).drew); (exact HLr.out.later (Below.refl _ _).drew); rintro e w8 ⟨rfl, hb8⟩; have T8 : Below wr.heap.size wr w8 := (Below.refl _ _).drew.trans hb8; have k1 := And.intro (cellLater c0 T8) (And.intro (cellLater c1 T8) (And.intro (cellLater c2 T8) (And.intro (cellLater c3 T8) (cellLater c4 T8)))); have k2 := And.intro (cellLater g0 T8) (And.intro (cellLater g1 T8) (And.intro (cellLater g2 T8) (And.intro (cellLater g3 T8) (cellLater g4 T8))))))
            have HN : Hid (Below w7.heap.size w7 w8) := HBr.out.trans (T8.mono HBr.out.size)
            clear k1 k2 T8 hb8 c0 c1 c2 c3 c4 g0 g1 g2 g3 g4
            go_wp2
            go_roundw
            case rel => exact ⟨n + 1, true, hlt, by go_num, rfl, fun _ => rfl, HN.out⟩
            case measure => simp [intOf]; omega
          · have HSM : Hid (SameSet.sameS t u = false) := Bool.eq_false_iff.2 hsm
            have hjn : j ≠ n := fun e => by rw [HNT.out e.symm, SameSet.sameS_self] at HSM; exact absurd HSM.out (by simp)
            clear hsm
            go_wp2
            go_region_held3 (fun w' => w'.cell? ⟨b, off + n * 5, none⟩ = some (.slice M u.mem.length c) ∧ w'.cell? ⟨b, off + n * 5 + 1, none⟩ = some (.int .u64 u.frm) ∧ w'.cell? ⟨b, off + n * 5 + 2, none⟩ = some (.int .u64 u.idx) ∧ w'.cell? ⟨b, off + n * 5 + 3, none⟩ = some (.int .i64 u.win) ∧ w'.cell? ⟨b, off + n * 5 + 4, none⟩ = some (.slice V u.val.length d) ∧ w'.cell? ⟨w4.heap.size, 0, none⟩ = some (.slice G0 t.mem.length G2) ∧ w'.cell? ⟨w4.heap.size, 1, none⟩ = some (.int .u64 t.frm) ∧ w'.cell? ⟨w4.heap.size, 2, none⟩ = some (.int .u64 t.idx) ∧ w'.cell? ⟨w4.heap.size, 3, none⟩ = some (.int .i64 t.win) ∧ w'.cell? ⟨w4.heap.size, 4, none⟩ = some (.slice G1 t.val.length G3)) (go_keep)
              (first
                | (go_at_call 11; refine (sameIn_eq false t u HSM.out G0 G1 M V G2 G3 c d _ ?_ ?_).mono ?_; (exact HGr.out.later (Below.refl _ _).drew); (exact HLr.out.later (Below.refl _ _).drew); rintro e w8 ⟨rfl, hb8⟩; have T8 : Below wr.heap.size wr w8 := (Below.refl _ _).drew.trans hb8; have k1 := And.intro (cellLater c0 T8) (And.intro (cellLater c1 T8) (And.intro (cellLater c2 T8) (And.intro (cellLater c3 T8) (cellLater c4 T8)))); have k2 := And.intro (cellLater g0 T8) (And.intro (cellLater g1 T8) (And.intro (cellLater g2 T8) (And.intro (cellLater g3 T8) (cellLater g4 T8))))))
            have HN : Hid (Below w7.heap.size w7 w8) := HBr.out.trans (T8.mono HBr.out.size)
            clear k1 k2 T8 hb8 c0 c1 c2 c3 c4 g0 g1 g2 g3 g4
            go_wp2
            go_roundw
            case rel => exact ⟨n + 1, x, hlt, by go_num, rfl, fun h => HX.out (by omega), HN.out⟩
            case measure => simp [intOf]; omega
        · obtain rfl : x = true := HX.out (by omega)
          go_wp2
          go_ret
          exact ⟨rfl, HB7.out.trans (HBr.out.mono HB7.out.size)⟩

set_option maxHeartbeats 8000000 in
theorem split_none (b off : Nat) (l : List MSet) (cap k : Nat) (s : Int) (w : World) (hz : ∀ i (hi : i < l.length), SetAt w b (off + i * 5) l[i]) (hcap : l.length ≤ cap) (hn : l.length ≤ 9223372036854775807) (hk : k ≤ l.length) (hs : 0 ≤ s ∧ s ≤ 18446744073709551615) (hall : ∀ i (hi : i < l.length), s < l[i].frm) :
    Calls Try.prog 3 #[.slice (some ⟨b, off, none⟩) l.length cap, .int .i64 k, .int .u64 s] w fun e w' => e = .returned (.bool true) ∧ Below w.heap.size w w' := by
  have HC : Hid (∀ i (hi : i < l.length), SetAt w b (off + i * 5) l[i]) := hz
  have HZ : Hid (Sets w (some ⟨b, off, none⟩) l) := Or.inr ⟨b, off, rfl, hz⟩
  have hkl : (k : Int) ≤ (l.length : Int) := by omega
  have hkc : (k : Int) ≤ (cap : Int) := by omega
  obtain ⟨s0, s1⟩ := hs
  obtain ⟨D, hD, hDS⟩ : ∃ D : Addr, (if cap = k then some (⟨b, off, none⟩ : Addr) else some ⟨b, off + k * 5, none⟩) = some D ∧ Sets w (some D) (l.drop k) := by
    by_cases e : cap = k
    · exact ⟨⟨b, off, none⟩, if_pos e, Or.inl (List.drop_eq_nil_of_le (by omega))⟩
    · exact ⟨⟨b, off + k * 5, none⟩, if_neg e, sets_drop hz k⟩
  have HD : Hid (Sets w (some D) (l.drop k)) := hDS
  clear hz hDS
  have HALL : Hid (∀ i (hi : i < l.length), s < l[i].frm) := hall
  clear hall
  go_enter Try.func3, Try.ntmps3
  go_wp2_with fail
  refine (Sizes.zz5_any _ l cap _ _ _ HZ.out hn).mono ?_
  rintro e w' ⟨rfl, r, rfl, -⟩
  cases r
  · go_wp2
    go_ret
    exact ⟨rfl, Below.refl _ _⟩
  go_wp2_with fail
  refine (Sizes.size_any _ l cap _ HZ.out hn).mono ?_
  rintro e w' ⟨rfl, r, rfl, hr⟩
  cases r
  · go_wp2
    go_ret
    exact ⟨rfl, Below.refl _ _⟩
  have HS : Hid (Sizes.Small l) := hr rfl
  clear hr
  have hl16 : l.length ≤ 16384 := HS.out.1
  go_wp2_with fail
  refine (to_len _ l _ cap _ rfl HZ.out hl16 HS.out.2).mono ?_
  rintro e w1 ⟨rfl, hS1, hB1⟩
  have HB1 : Hid (Below w.heap.size w w1) := hB1
  have HM1 : Hid (Sets w1 (some ⟨w.heap.size, 0, none⟩) l) := hS1
  clear hB1 hS1
  go_wp2_with fail
  refine (to_len _ (l.take k) k cap _ (by rw [List.length_take]; omega) (sets_take (HZ.out.later HB1.out) k) (by omega) (small_take k HS.out.2)).mono ?_
  rintro e w2 ⟨rfl, hS2, hB2⟩
  have HB2 : Hid (Below w.heap.size w w2) := HB1.out.trans (hB2.mono HB1.out.size)
  have HM2 : Hid (Sets w2 (some ⟨w.heap.size, 0, none⟩) l) := HM1.out.later hB2
  have HF2 : Hid (Sets w2 (some ⟨w1.heap.size, 0, none⟩) (l.take k)) := hS2
  clear hB2 hS2 HB1 HM1
  go_wp2_with fail
  refine (to_len _ (l.drop k) (l.length - k) (cap - k) _ (by rw [List.length_drop]) (HD.out.later HB2.out) (by omega) (small_drop k HS.out.2)).mono ?_
  rintro e w3 ⟨rfl, hS3, hB3⟩
  have HB3 : Hid (Below w.heap.size w w3) := HB2.out.trans (hB3.mono HB2.out.size)
  have HM3 : Hid (Sets w3 (some ⟨w.heap.size, 0, none⟩) l) := HM2.out.later hB3
  have HF3 : Hid (Sets w3 (some ⟨w1.heap.size, 0, none⟩) (l.take k)) := HF2.out.later hB3
  have HR3 : Hid (Sets w3 (some ⟨w2.heap.size, 0, none⟩) (l.drop k)) := hS3
  clear hB3 hS3 HB2 HM2 HF2 hD HD
  go_wp2_with fail
  refine (at_len _ l l.length l.length s _ rfl HM3.out hl16).mono ?_
  rintro e w4 hp
  obtain ⟨hB4, rfl⟩ := hp.no HALL.out
  clear hp
  have HB4 : Hid (Below w.heap.size w w4) := HB3.out.trans (hB4.mono HB3.out.size)
  have HF4 : Hid (Sets w4 (some ⟨w1.heap.size, 0, none⟩) (l.take k)) := HF3.out.later hB4
  have HR4 : Hid (Sets w4 (some ⟨w2.heap.size, 0, none⟩) (l.drop k)) := HR3.out.later hB4
  clear hB4 HB3 HM3 HF3 HR3
  go_wp2_with fail
  refine (at_len _ (l.take k) k k s _ (by rw [List.length_take]; omega) (HF4.out.later ((Below.refl _ _).alloc (Nat.le_refl _) _)) (by omega)).mono ?_
  rintro e w5 hp
  obtain ⟨hB5, rfl⟩ := hp.no (fun i hi => by rw [List.getElem_take]; exact HALL.out i _)
  clear hp
  have T5 := throughA hB5
  have HB5 : Hid (Below w.heap.size w w5) := HB4.out.trans (T5.mono HB4.out.size)
  have HR5 : Hid (Sets w5 (some ⟨w2.heap.size, 0, none⟩) (l.drop k)) := HR4.out.later T5
  have z5 : w4.heap.size < w5.heap.size := sizeA hB5
  have HV5 : Hid (Five w5 w4.heap.size (.slice none 0 0) (.int .u64 0) (.int .u64 0) (.int .i64 0) (.slice none 0 0)) := five_new hB5
  clear T5 hB5 HB4 HF4 HR4
  go_wp2_with fail
  refine (at_len _ (l.drop k) (l.length - k) (l.length - k) s _ (by rw [List.length_drop]) (HR5.out.later ((Below.refl _ _).alloc (Nat.le_refl _) _)) (by omega)).mono ?_
  rintro e w6 hp
  obtain ⟨hB6, rfl⟩ := hp.no (fun i hi => by rw [List.getElem_drop]; exact HALL.out _ _)
  clear hp
  have T6 := throughA hB6
  have HB6 : Hid (Below w.heap.size w w6) := HB5.out.trans (T6.mono HB5.out.size)
  have z6 : w4.heap.size < w6.heap.size := Nat.lt_trans z5 (sizeA hB6)
  have z6' : w5.heap.size < w6.heap.size := sizeA hB6
  have HV6 : Hid (Five w6 w4.heap.size (.slice none 0 0) (.int .u64 0) (.int .u64 0) (.int .i64 0) (.slice none 0 0)) := HV5.out.later T6
  obtain ⟨g0, g1, g2, g3, g4⟩ := HV6.out
  clear T6 hB6 HB5 HR5 HV5 z5
  go_wp2_with fail
  refine (SameSet.isZero_any _).mono ?_
  rintro e w7 ⟨rfl, hB7⟩
  have T7 := throughA hB7
  have HB7 : Hid (Below w.heap.size w w7) := HB6.out.trans (T7.mono HB6.out.size)
  have HV7 : Hid (Five w7 w4.heap.size (.slice none 0 0) (.int .u64 0) (.int .u64 0) (.int .i64 0) (.slice none 0 0)) := HV6.out.later T7
  clear T7 hB7 HB6 HV6 g0 g1 g2 g3 g4 z6 z6'
  go_wp2
  go_loop [16, 17] (fun r i => ∃ (n : Nat), n ≤ l.length ∧ i = .int .i64 n ∧ r = .bool false) (fun _ i => l.length - (intOf i).toNat)
  case atStart => exact ⟨0, Nat.zero_le _, rfl, rfl⟩
  case round =>
    obtain ⟨n, hn', rfl, rfl⟩ := hrel
    by_cases hlt : n < l.length
    · obtain ⟨M, V, c, d, c0, c1, c2, c3, c4, hm, hv⟩ := (HC.out n hlt).later HB7.out
      have hy := HALL.out n hlt
      clear c0 c2 c3 c4 hm hv
      go_wp2
      go_round
      case rel => exact ⟨n + 1, hlt, by go_num, rfl⟩
      case measure => simp [intOf]; omega
    · go_wp2
      go_ret
      exact ⟨rfl, HB7.out⟩

set_option maxHeartbeats 1000000 in
theorem split_out (A : Option Addr) (l : List MSet) (cap : Nat) (k s : Int) (hk : k < 0 ∨ (l.length : Int) < k) (w : World) (hz : Sets w A l) (hn : l.length ≤ 9223372036854775807) :
    Calls Try.prog 3 #[.slice A l.length cap, .int .i64 k, .int .u64 s] w fun e w' => e = .returned (.bool true) ∧ Below w.heap.size w w' := by
  have HZ : Hid (Sets w A l) := hz
  clear hz
  have hk' : k < 0 ∨ (¬ k < 0 ∧ (l.length : Int) < k) := by omega
  clear hk
  rcases hk' with h | ⟨h', h⟩
  all_goals
    go_enter Try.func3, Try.ntmps3
    go_wp2_with fail
    refine (Sizes.zz5_any A l cap _ _ _ HZ.out hn).mono ?_
    rintro e w' ⟨rfl, r, rfl, -⟩
    cases r
    · go_wp2
      go_ret
      exact ⟨rfl, Below.refl _ _⟩
    · go_wp2_with fail
      refine (Sizes.size_any A l cap _ HZ.out hn).mono ?_
      rintro e w' ⟨rfl, r, rfl, -⟩
      cases r
      all_goals
        go_wp2
        go_ret
        exact ⟨rfl, Below.refl _ _⟩

theorem zz5_len (A : Option Addr) (l : List MSet) (n cap : Nat) (k s : Int) (w : World) (he : l.length = n) (hz : Sets w A l) (hn : n ≤ 9223372036854775807) :
    Calls Try.prog 5 #[.slice A n cap, .int .i64 k, .int .u64 s] w (Sizes.Guarded True w) := by
  subst he
  exact Sizes.zz5_any A l cap k s w hz hn

theorem size_len (A : Option Addr) (l : List MSet) (n cap : Nat) (w : World) (he : l.length = n) (hz : Sets w A l) (hn : n ≤ 9223372036854775807) :
    Calls Try.prog 6 #[.slice A n cap] w (Sizes.Guarded (Sizes.Small l) w) := by
  subst he
  exact Sizes.size_any A l cap w hz hn

set_option maxHeartbeats 2000000 in
theorem split_empty (A : Option Addr) (cap : Nat) (s : Int) (w : World) (hs : 0 ≤ s ∧ s ≤ 18446744073709551615) :
    Calls Try.prog 3 #[.slice A 0 cap, .int .i64 0, .int .u64 s] w fun e w' => e = .returned (.bool true) ∧ Below w.heap.size w w' := by
  obtain ⟨s0, s1⟩ := hs
  have hc0 : (0 : Int) ≤ (cap : Int) := by omega
  have hcc : cap = 0 ∨ 0 < cap := by omega
  rcases hcc with rfl | hcap
  all_goals
    go_enter Try.func3, Try.ntmps3
    go_wp2_with fail
    refine (zz5_len _ [] 0 _ _ _ _ rfl (Or.inl rfl) (by omega)).mono ?_
    rintro e w' ⟨rfl, r, rfl, -⟩
    cases r
    · go_wp2
      go_ret
      exact ⟨rfl, Below.refl _ _⟩
    go_wp2_with fail
    refine (size_len _ [] 0 _ _ rfl (Or.inl rfl) (by omega)).mono ?_
    rintro e w' ⟨rfl, r, rfl, hr⟩
    cases r
    · go_wp2
      go_ret
      exact ⟨rfl, Below.refl _ _⟩
    clear hr
    go_wp2_with fail
    refine (to_len _ [] 0 _ _ rfl (Or.inl rfl) (by omega) (fun j hj => absurd hj (Nat.not_lt_zero _))).mono ?_
    rintro e w1 ⟨rfl, hS1, hB1⟩
    clear hS1
    have HB1 : Hid (Below w.heap.size w w1) := hB1
    clear hB1
    go_wp2_with fail
    refine (to_len _ [] 0 _ _ rfl (Or.inl rfl) (by omega) (fun j hj => absurd hj (Nat.not_lt_zero _))).mono ?_
    rintro e w2 ⟨rfl, -, hB2⟩
    have HB2 : Hid (Below w.heap.size w w2) := HB1.out.trans (hB2.mono HB1.out.size)
    clear hB2 HB1
    go_wp2_with fail
    refine (to_len _ [] 0 _ _ rfl (Or.inl rfl) (by omega) (fun j hj => absurd hj (Nat.not_lt_zero _))).mono ?_
    rintro e w3 ⟨rfl, -, hB3⟩
    have HB3 : Hid (Below w.heap.size w w3) := HB2.out.trans (hB3.mono HB2.out.size)
    clear hB3 HB2
    go_wp2_with fail
    refine (at_len _ [] 0 _ _ _ rfl (Or.inl rfl) (by omega)).mono ?_
    rintro e w4 hp
    obtain ⟨hB4, rfl⟩ := hp.no (fun i hi => absurd hi (Nat.not_lt_zero _))
    have HB4 : Hid (Below w.heap.size w w4) := HB3.out.trans (hB4.mono HB3.out.size)
    clear hp hB4 HB3
    go_wp2_with fail
    refine (at_len _ [] 0 _ _ _ rfl (Or.inl rfl) (by omega)).mono ?_
    rintro e w5 hp
    obtain ⟨hB5, rfl⟩ := hp.no (fun i hi => absurd hi (Nat.not_lt_zero _))
    have T5 := throughA hB5
    have HB5 : Hid (Below w.heap.size w w5) := HB4.out.trans (T5.mono HB4.out.size)
    have z5 : w4.heap.size < w5.heap.size := sizeA hB5
    have HV5 : Hid (Five w5 w4.heap.size (.slice none 0 0) (.int .u64 0) (.int .u64 0) (.int .i64 0) (.slice none 0 0)) := five_new hB5
    clear hp hB5 HB4 T5
    go_wp2_with fail
    refine (at_len _ [] 0 _ _ _ rfl (Or.inl rfl) (by omega)).mono ?_
    rintro e w6 hp
    obtain ⟨hB6, rfl⟩ := hp.no (fun i hi => absurd hi (Nat.not_lt_zero _))
    have T6 := throughA hB6
    have HB6 : Hid (Below w.heap.size w w6) := HB5.out.trans (T6.mono HB5.out.size)
    have z6 : w4.heap.size < w6.heap.size := Nat.lt_trans z5 (sizeA hB6)
    obtain ⟨g0, g1, g2, g3, g4⟩ := HV5.out.later T6
    clear hp hB6 HB5 T6 HV5 z5
    go_wp2_with fail
    refine (SameSet.isZero_any _).mono ?_
    rintro e w7 ⟨rfl, hB7⟩
    have HB7 : Hid (Below w.heap.size w w7) := HB6.out.trans ((throughA hB7).mono HB6.out.size)
    clear hB7 HB6 g0 g1 g2 g3 g4 z6
    go_wp2
    go_loop [16, 17] (fun r i => i = .int .i64 0 ∧ r = .bool false) (fun _ i => 0)
    case atStart => exact ⟨rfl, rfl⟩
    case round =>
      obtain ⟨rfl, rfl⟩ := hrel
      go_wp2
      go_ret
      exact ⟨rfl, HB7.out⟩

theorem split_any (A : Option Addr) (l : List MSet) (cap : Nat) (k s : Int) (w : World) (hz : Sets w A l) (hcap : l.length ≤ cap) (hn : l.length ≤ 9223372036854775807) (hs : 0 ≤ s ∧ s ≤ 18446744073709551615) :
    Calls Try.prog 3 #[.slice A l.length cap, .int .i64 k, .int .u64 s] w fun e w' => e = .returned (.bool true) ∧ Below w.heap.size w w' := by
  by_cases h0 : k < 0
  · exact split_out A l cap k s (Or.inl h0) w hz hn
  by_cases h1 : (l.length : Int) < k
  · exact split_out A l cap k s (Or.inr h1) w hz hn
  obtain ⟨n, rfl⟩ : ∃ n : Nat, k = n := ⟨k.toNat, by omega⟩
  have hkn : n ≤ l.length := by omega
  rcases hz with h | ⟨b, off, rfl, hc⟩
  · subst h
    obtain rfl : n = 0 := by simpa using hkn
    exact split_empty A cap s w hs
  · rcases last_or l s with ⟨j, hj, hle, hall⟩ | hall
    · by_cases hjk : n ≤ j
      · exact split_back b off l cap n s w hc hcap hn hkn hs l[j] j hj rfl hjk hle hall
      · exact split_front b off l cap n s w hc hcap hn hkn hs l[j] j hj rfl (by omega) hle hall
    · exact split_none b off l cap n s w hc hcap hn hkn hs hall


end Go.Proofs.Qxb6626293a.Split
