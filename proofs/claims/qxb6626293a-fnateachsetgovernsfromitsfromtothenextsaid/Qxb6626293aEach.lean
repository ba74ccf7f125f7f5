import Derived.Test.Qxb6626293aTo
import Derived.Test.Qxb6626293aAt
import Derived.Test.Qxb6626293aSizes
import Derived.Test.Qxb6626293aSameSet
namespace Go.Proofs.Qxb6626293a.Each
open Go.RowKit Mem
set_option linter.unusedVariables false

theorem mono_of {l : List MSet} (hs : ∀ j (hj : j + 1 < l.length), l[j].frm < l[j + 1].frm) : ∀ {j i : Nat} (h : i < j) (hj : j < l.length), (l[i]'(by omega)).frm < l[j].frm := by
  intro j
  induction j with
  | zero => intro i h; exact absurd h (Nat.not_lt_zero _)
  | succ j ih =>
    intro i h hj
    by_cases e : i = j
    · subst e; exact hs i hj
    · exact Int.lt_trans (ih (by omega) (by omega)) (hs j hj)


theorem through {w2 w3 : World} {o : Obj} (hb : Below (w2.alloc o).drew.heap.size (w2.alloc o).drew w3) : Below w2.heap.size w2 w3 :=
  ((Below.refl _ _).alloc (Nat.le_refl _) o).drew.trans (hb.mono (by simp))

theorem through' {w2 w3 : World} {o : Obj} (hb : Below (w2.alloc o).heap.size (w2.alloc o) w3) : Below w2.heap.size w2 w3 :=
  ((Below.refl _ _).alloc (Nat.le_refl _) o).trans (hb.mono (by simp))

theorem newFive {w2 w3 : World} {v0 v1 v2 v3 v4 : Value} {t : TypeId} (hb : Below (w2.alloc (.cells #[v0, v1, v2, v3, v4] t)).drew.heap.size (w2.alloc (.cells #[v0, v1, v2, v3, v4] t)).drew w3) :
    w3.cell? ⟨w2.heap.size, 0, none⟩ = some v0 ∧ w3.cell? ⟨w2.heap.size, 1, none⟩ = some v1 ∧ w3.cell? ⟨w2.heap.size, 2, none⟩ = some v2 ∧ w3.cell? ⟨w2.heap.size, 3, none⟩ = some v3 ∧ w3.cell? ⟨w2.heap.size, 4, none⟩ = some v4 := by
  refine ⟨cellLater ?_ hb, cellLater ?_ hb, cellLater ?_ hb, cellLater ?_ hb, cellLater ?_ hb⟩ <;> simp

set_option maxHeartbeats 8000000 in
theorem each_pos (A : Option Addr) (l : List MSet) (cap : Nat) (q : Nat) (hk : q + 1 < l.length) (w : World) (hz : Sets w A l) (hn : l.length ≤ 9223372036854775807) (hu : ∀ j (hj : j < l.length), 0 ≤ l[j].frm ∧ l[j].frm ≤ 18446744073709551615) :
    Calls Try.prog 4 #[.slice A l.length cap, .int .i64 ((q : Int) + 1)] w fun e w' => e = .returned (.bool true) ∧ Below w.heap.size w w' := by
  have HZ : Hid (Sets w A l) := hz
  have HU : Hid (∀ j (hj : j < l.length), 0 ≤ l[j].frm ∧ l[j].frm ≤ 18446744073709551615) := hu
  clear hz hu
  have hi1 : (q : Int) + 1 < (l.length : Int) := by omega
  go_enter Try.func4, Try.ntmps4
  go_wp2_with fail
  refine (Sizes.zz12_any A l cap _ _ HZ.out hn).mono ?_
  rintro e w' ⟨rfl, r, rfl, -⟩
  cases r
  · go_wp2
    go_ret
    exact ⟨rfl, Below.refl _ _⟩
  go_wp2_with fail
  refine (Sizes.size_any A l cap _ HZ.out hn).mono ?_
  rintro e w' ⟨rfl, r, rfl, hr⟩
  cases r
  · go_wp2
    go_ret
    exact ⟨rfl, Below.refl _ _⟩
  have HS : Hid (Sizes.Small l) := hr rfl
  clear hr
  go_wp2
  go_loopw [5] (fun t wr => ∃ p : Nat, p < l.length ∧ t = .int .i64 (p + 1) ∧ (∃ m, wr = w.drewN m) ∧ ∀ j (hj : j + 1 < l.length), j < p → l[j].frm < l[j + 1].frm) (fun t _ => l.length - (intOf t).toNat)
  case atStart => exact ⟨0, by omega, rfl, ⟨0, rfl⟩, fun j _ hj => absurd hj (Nat.not_lt_zero _)⟩
  case round =>
    obtain ⟨p, hp, rfl, ⟨m, rfl⟩, hall⟩ := hrel
    have HA : Hid (∀ j (hj : j + 1 < l.length), j < p → l[j].frm < l[j + 1].frm) := hall
    clear hall
    have hl16 : l.length ≤ 16384 := HS.out.1
    obtain ⟨b, off, rfl, hc⟩ : ∃ b off, A = some ⟨b, off, none⟩ ∧ ∀ i (hi : i < l.length), SetAt w b (off + i * 5) l[i] := by
      rcases HZ.out with h | h
      · have : l.length = 0 := by rw [h]; rfl
        omega
      · exact h
    by_cases hlt : p + 1 < l.length
    · obtain ⟨M, V, c, d, c0, c1, c2, c3, c4, hm, hv⟩ := hc p hp
      obtain ⟨M', V', c', d', c0', c1', c2', c3', c4', hm', hv'⟩ := hc (p + 1) hlt
      have b0 : ((p : Int)) + 1 < (l.length : Int) := by omega
      have b1 : ((p : Int)) < (l.length : Int) := by omega
      obtain ⟨x, hx⟩ : ∃ x, l[p].frm = x := ⟨_, rfl⟩
      obtain ⟨y, hy⟩ : ∃ x, l[p + 1].frm = x := ⟨_, rfl⟩
      rw [hx] at c1
      rw [hy] at c1'
      have HX : Hid (l[p].frm = x) := hx
      have HY : Hid (l[p + 1].frm = y) := hy
      clear hx hy hc c0 c2 c3 c4 hm hv c0' c2' c3' c4' hm' hv'
      by_cases hxy : x < y
      · go_wp2
        go_quiet (fail)
        go_wp2
        go_roundw
        case rel => exact ⟨p + 1, hlt, by go_num, ⟨_, rfl⟩, fun j hj h => by
          by_cases e : j = p
          · subst e; rw [HX.out, HY.out]; exact hxy
          · exact HA.out j hj (by omega)⟩
        case measure => simp [intOf]; omega
      · go_wp2
        go_quiet (fail)
        go_wp2
        go_ret
        exact ⟨rfl, by rw [World.drewN_drewN]; exact belowN _ _ _⟩
    · have HSorted : Hid (∀ j (hj : j + 1 < l.length), l[j].frm < l[j + 1].frm) := fun j hj => HA.out j hj (by omega)
      have HC : Hid (∀ i (hi : i < l.length), SetAt w b (off + i * 5) l[i]) := hc
      have hsm := HS.out.2
      clear hc HA
      go_wp2_with fail
      refine (To.to_any _ l cap _ (HZ.out.later (belowN _ _ _)) hl16 hsm).mono ?_
      rintro e w1 ⟨rfl, hS1, hB1⟩
      have HBw1 : Hid (Below w.heap.size w w1) := (belowN _ _ _).trans hB1
      have HMw1 : Hid (Sets w1 (some ⟨w.heap.size, 0, none⟩) l) := hS1
      obtain ⟨M0, V0, d0, e0, -, c1, -, -, -, -, -⟩ := (HC.out (q + 1) (by omega)).later HBw1.out
      clear hS1 hB1 hsm
      go_wp2_with fail
      refine (At.at_any _ l l.length (l[q + 1].frm) _ HMw1.out hl16).mono ?_
      rintro e w2 hp2
      obtain ⟨hBw2, G0, G1, G2, G3, rfl, hG0, hG1⟩ := hp2.is (q + 1) (by omega) (Int.le_refl _) (fun j hj h => mono_of HSorted.out h hj)
      clear hp2
      have HBw2 : Hid (Below w.heap.size w w2) := HBw1.out.trans (hBw2.mono HBw1.out.size)
      have HMw2 : Hid (Sets w2 (some ⟨w.heap.size, 0, none⟩) l) := HMw1.out.later hBw2
      obtain ⟨Ma, Va, ca, da, c0a, c1a, c2a, c3a, c4a, hma, hva⟩ := (HC.out (q + 1) (by omega)).later HBw2.out
      have hza : b < w2.heap.size := World.block_lt_of_cell? _ _ c0a
      have HLa : Hid (Lies w2 l[q + 1] Ma Va) := ⟨hma, hva, (HS.out.2 _ _).1, (HS.out.2 _ _).2⟩
      have HKa : Hid (Lies w2 l[q + 1] G0 G1) := ⟨hG0, hG1, (HS.out.2 _ _).1, (HS.out.2 _ _).2⟩
      clear hma hva hG0 hG1 hBw2 HMw1 HBw1
      go_wp2
      go_region_held3 (fun w' => w'.cell? ⟨b, off + (q + 1) * 5, none⟩ = some (.slice Ma l[q + 1].mem.length ca) ∧ w'.cell? ⟨b, off + (q + 1) * 5 + 1, none⟩ = some (.int .u64 l[q + 1].frm) ∧ w'.cell? ⟨b, off + (q + 1) * 5 + 2, none⟩ = some (.int .u64 l[q + 1].idx) ∧ w'.cell? ⟨b, off + (q + 1) * 5 + 3, none⟩ = some (.int .i64 l[q + 1].win) ∧ w'.cell? ⟨b, off + (q + 1) * 5 + 4, none⟩ = some (.slice Va l[q + 1].val.length da) ∧ w'.cell? ⟨w2.heap.size, 0, none⟩ = some (.slice G0 l[q + 1].mem.length G2) ∧ w'.cell? ⟨w2.heap.size, 1, none⟩ = some (.int .u64 l[q + 1].frm) ∧ w'.cell? ⟨w2.heap.size, 2, none⟩ = some (.int .u64 l[q + 1].idx) ∧ w'.cell? ⟨w2.heap.size, 3, none⟩ = some (.int .i64 l[q + 1].win) ∧ w'.cell? ⟨w2.heap.size, 4, none⟩ = some (.slice G1 l[q + 1].val.length G3)) (go_keep)
        (first
          | (go_at_call 11; refine (SameSet.sameIn_self l[q + 1] G0 G1 Ma Va G2 G3 ca da _ ?_ ?_).mono ?_; (exact HKa.out.later ((Below.refl _ _).alloc (Nat.le_refl _) _).drew); (exact HLa.out.later ((Below.refl _ _).alloc (Nat.le_refl _) _).drew); rintro e w3 ⟨rfl, hbw3⟩; have Tw3 := through hbw3; have ka := And.intro (cellLater c0a Tw3) (And.intro (cellLater c1a Tw3) (And.intro (cellLater c2a Tw3) (And.intro (cellLater c3a Tw3) (cellLater c4a Tw3)))); have kka := newFive hbw3))
      have HBw3 : Hid (Below w.heap.size w w3) := HBw2.out.trans (Tw3.mono HBw2.out.size)
      have HMw3 : Hid (Sets w3 (some ⟨w.heap.size, 0, none⟩) l) := HMw2.out.later Tw3
      clear Tw3 hbw3 ka kka c0a c1a c2a c3a c4a HBw2 HMw2 HLa HKa hza
      have hs1 := HSorted.out q hk
      have hw1 : IntKind.i64.wrap ((q : Int) + 1 - 1) = (q : Int) := by rw [IntKind.wrap_i64]; omega
      have hw2 : IntKind.i64.wrap (q : Int) = (q : Int) := by rw [IntKind.wrap_i64]; omega
      have hq : (q : Int) < (l.length : Int) := by omega
      have hu1 := (HU.out q (by omega)).1
      have hu2 := (HU.out (q + 1) hk).2
      have f1 : 1 ≤ l[q + 1].frm := by omega
      obtain ⟨M1, V1, d1, e1, -, x1, -, -, -, -, -⟩ := (HC.out (q + 1) (by omega)).later HBw3.out
      go_wp2_with fail
      refine (At.at_any _ l l.length (l[q + 1].frm - 1) _ HMw3.out hl16).mono ?_
      rintro e w4 hp2
      obtain ⟨hBw4, H0, H1, H2, H3, rfl, hG0, hG1⟩ := hp2.is (q) (by omega) (by omega) (fun j hj h => by
        by_cases e : j = q + 1
        · subst e; omega
        · have := mono_of HSorted.out (show q + 1 < j by omega) hj; omega)
      clear hp2
      have HBw4 : Hid (Below w.heap.size w w4) := HBw3.out.trans (hBw4.mono HBw3.out.size)
      have HMw4 : Hid (Sets w4 (some ⟨w.heap.size, 0, none⟩) l) := HMw3.out.later hBw4
      obtain ⟨Mb, Vb, cb, db, c0b, c1b, c2b, c3b, c4b, hmb, hvb⟩ := (HC.out (q) (by omega)).later HBw4.out
      have hzb : b < w4.heap.size := World.block_lt_of_cell? _ _ c0b
      have HLb : Hid (Lies w4 l[q] Mb Vb) := ⟨hmb, hvb, (HS.out.2 _ _).1, (HS.out.2 _ _).2⟩
      have HKb : Hid (Lies w4 l[q] H0 H1) := ⟨hG0, hG1, (HS.out.2 _ _).1, (HS.out.2 _ _).2⟩
      clear hmb hvb hG0 hG1 hBw4 HMw3 HBw3
      go_wp2
      go_region_held3 (fun w' => w'.cell? ⟨b, off + q * 5, none⟩ = some (.slice Mb l[q].mem.length cb) ∧ w'.cell? ⟨b, off + q * 5 + 1, none⟩ = some (.int .u64 l[q].frm) ∧ w'.cell? ⟨b, off + q * 5 + 2, none⟩ = some (.int .u64 l[q].idx) ∧ w'.cell? ⟨b, off + q * 5 + 3, none⟩ = some (.int .i64 l[q].win) ∧ w'.cell? ⟨b, off + q * 5 + 4, none⟩ = some (.slice Vb l[q].val.length db) ∧ w'.cell? ⟨w4.heap.size, 0, none⟩ = some (.slice H0 l[q].mem.length H2) ∧ w'.cell? ⟨w4.heap.size, 1, none⟩ = some (.int .u64 l[q].frm) ∧ w'.cell? ⟨w4.heap.size, 2, none⟩ = some (.int .u64 l[q].idx) ∧ w'.cell? ⟨w4.heap.size, 3, none⟩ = some (.int .i64 l[q].win) ∧ w'.cell? ⟨w4.heap.size, 4, none⟩ = some (.slice H1 l[q].val.length H3)) (go_keep)
        (first
          | (go_at_call 11; refine (SameSet.sameIn_self l[q] H0 H1 Mb Vb H2 H3 cb db _ ?_ ?_).mono ?_; (exact HKb.out.later ((Below.refl _ _).alloc (Nat.le_refl _) _).drew); (exact HLb.out.later ((Below.refl _ _).alloc (Nat.le_refl _) _).drew); rintro e w5 ⟨rfl, hbw5⟩; have Tw5 := through hbw5; have kb := And.intro (cellLater c0b Tw5) (And.intro (cellLater c1b Tw5) (And.intro (cellLater c2b Tw5) (And.intro (cellLater c3b Tw5) (cellLater c4b Tw5)))); have kkb := newFive hbw5))
      have HBw5 : Hid (Below w.heap.size w w5) := HBw4.out.trans (Tw5.mono HBw4.out.size)
      have HMw5 : Hid (Sets w5 (some ⟨w.heap.size, 0, none⟩) l) := HMw4.out.later Tw5
      clear Tw5 hbw5 kb kkb c0b c1b c2b c3b c4b HBw4 HMw4 HLb HKb hzb
      by_cases hnx : q + 1 + 1 < l.length
      · have hnx' : (q : Int) + 1 + 1 < (l.length : Int) := by omega
        have hs2 := HSorted.out (q + 1) hnx
        have hu3 := (HU.out (q + 1 + 1) hnx).2
        have f2 : 1 ≤ l[q + 1 + 1].frm := by omega
        obtain ⟨M2, V2, d2, e2, -, y1, -, -, -, -, -⟩ := (HC.out (q + 1 + 1) (by omega)).later HBw5.out
        go_wp2_with fail
        refine (At.at_any _ l l.length (l[q + 1 + 1].frm - 1) _ HMw5.out hl16).mono ?_
        rintro e w6 hp2
        obtain ⟨hBw6, J0, J1, J2, J3, rfl, hG0, hG1⟩ := hp2.is (q + 1) (by omega) (by omega) (fun j hj h => by
          by_cases e : j = q + 1 + 1
          · subst e; omega
          · have := mono_of HSorted.out (show q + 1 + 1 < j by omega) hj; omega)
        clear hp2
        have HBw6 : Hid (Below w.heap.size w w6) := HBw5.out.trans (hBw6.mono HBw5.out.size)
        have HMw6 : Hid (Sets w6 (some ⟨w.heap.size, 0, none⟩) l) := HMw5.out.later hBw6
        obtain ⟨Mc, Vc, cc, dc, c0c, c1c, c2c, c3c, c4c, hmc, hvc⟩ := (HC.out (q + 1) (by omega)).later HBw6.out
        have hzc : b < w6.heap.size := World.block_lt_of_cell? _ _ c0c
        have HLc : Hid (Lies w6 l[q + 1] Mc Vc) := ⟨hmc, hvc, (HS.out.2 _ _).1, (HS.out.2 _ _).2⟩
        have HKc : Hid (Lies w6 l[q + 1] J0 J1) := ⟨hG0, hG1, (HS.out.2 _ _).1, (HS.out.2 _ _).2⟩
        clear hmc hvc hG0 hG1 hBw6 HMw5 HBw5
        go_wp2
        go_region_held3 (fun w' => w'.cell? ⟨b, off + (q + 1) * 5, none⟩ = some (.slice Mc l[q + 1].mem.length cc) ∧ w'.cell? ⟨b, off + (q + 1) * 5 + 1, none⟩ = some (.int .u64 l[q + 1].frm) ∧ w'.cell? ⟨b, off + (q + 1) * 5 + 2, none⟩ = some (.int .u64 l[q + 1].idx) ∧ w'.cell? ⟨b, off + (q + 1) * 5 + 3, none⟩ = some (.int .i64 l[q + 1].win) ∧ w'.cell? ⟨b, off + (q + 1) * 5 + 4, none⟩ = some (.slice Vc l[q + 1].val.length dc) ∧ w'.cell? ⟨w6.heap.size, 0, none⟩ = some (.slice J0 l[q + 1].mem.length J2) ∧ w'.cell? ⟨w6.heap.size, 1, none⟩ = some (.int .u64 l[q + 1].frm) ∧ w'.cell? ⟨w6.heap.size, 2, none⟩ = some (.int .u64 l[q + 1].idx) ∧ w'.cell? ⟨w6.heap.size, 3, none⟩ = some (.int .i64 l[q + 1].win) ∧ w'.cell? ⟨w6.heap.size, 4, none⟩ = some (.slice J1 l[q + 1].val.length J3)) (go_keep)
          (first
            | (go_at_call 11; refine (SameSet.sameIn_self l[q + 1] J0 J1 Mc Vc J2 J3 cc dc _ ?_ ?_).mono ?_; (exact HKc.out.later ((Below.refl _ _).alloc (Nat.le_refl _) _).drew); (exact HLc.out.later ((Below.refl _ _).alloc (Nat.le_refl _) _).drew); rintro e w7 ⟨rfl, hbw7⟩; have Tw7 := through hbw7; have kc := And.intro (cellLater c0c Tw7) (And.intro (cellLater c1c Tw7) (And.intro (cellLater c2c Tw7) (And.intro (cellLater c3c Tw7) (cellLater c4c Tw7)))); have kkc := newFive hbw7))
        have HBw7 : Hid (Below w.heap.size w w7) := HBw6.out.trans (Tw7.mono HBw6.out.size)
        have HMw7 : Hid (Sets w7 (some ⟨w.heap.size, 0, none⟩) l) := HMw6.out.later Tw7
        clear Tw7 hbw7 kc kkc c0c c1c c2c c3c c4c HBw6 HMw6 HLc HKc hzc
        go_wp2
        go_ret
        exact ⟨rfl, HBw7.out⟩
      · have hnx' : ¬ (q : Int) + 1 + 1 < (l.length : Int) := by omega
        go_wp2
        go_ret
        exact ⟨rfl, HBw5.out⟩

set_option maxHeartbeats 8000000 in
theorem each_zero (A : Option Addr) (l : List MSet) (cap : Nat) (hk : 0 < l.length) (w : World) (hz : Sets w A l) (hn : l.length ≤ 9223372036854775807) (hu : ∀ j (hj : j < l.length), 0 ≤ l[j].frm ∧ l[j].frm ≤ 18446744073709551615) :
    Calls Try.prog 4 #[.slice A l.length cap, .int .i64 (0)] w fun e w' => e = .returned (.bool true) ∧ Below w.heap.size w w' := by
  have HZ : Hid (Sets w A l) := hz
  have HU : Hid (∀ j (hj : j < l.length), 0 ≤ l[j].frm ∧ l[j].frm ≤ 18446744073709551615) := hu
  clear hz hu
  have hi1 : (0 : Int) < (l.length : Int) := by omega
  have hne : ¬ l = [] := fun h => by rw [h] at hk; exact absurd hk (Nat.lt_irrefl _)
  go_enter Try.func4, Try.ntmps4
  go_wp2_with fail
  refine (Sizes.zz12_any A l cap _ _ HZ.out hn).mono ?_
  rintro e w' ⟨rfl, r, rfl, -⟩
  cases r
  · go_wp2
    go_ret
    exact ⟨rfl, Below.refl _ _⟩
  go_wp2_with fail
  refine (Sizes.size_any A l cap _ HZ.out hn).mono ?_
  rintro e w' ⟨rfl, r, rfl, hr⟩
  cases r
  · go_wp2
    go_ret
    exact ⟨rfl, Below.refl _ _⟩
  have HS : Hid (Sizes.Small l) := hr rfl
  clear hr
  go_wp2
  go_loopw [5] (fun t wr => ∃ p : Nat, p < l.length ∧ t = .int .i64 (p + 1) ∧ (∃ m, wr = w.drewN m) ∧ ∀ j (hj : j + 1 < l.length), j < p → l[j].frm < l[j + 1].frm) (fun t _ => l.length - (intOf t).toNat)
  case atStart => exact ⟨0, by omega, rfl, ⟨0, rfl⟩, fun j _ hj => absurd hj (Nat.not_lt_zero _)⟩
  case round =>
    obtain ⟨p, hp, rfl, ⟨m, rfl⟩, hall⟩ := hrel
    have HA : Hid (∀ j (hj : j + 1 < l.length), j < p → l[j].frm < l[j + 1].frm) := hall
    clear hall
    have hl16 : l.length ≤ 16384 := HS.out.1
    obtain ⟨b, off, rfl, hc⟩ : ∃ b off, A = some ⟨b, off, none⟩ ∧ ∀ i (hi : i < l.length), SetAt w b (off + i * 5) l[i] := by
      rcases HZ.out with h | h
      · have : l.length = 0 := by rw [h]; rfl
        omega
      · exact h
    by_cases hlt : p + 1 < l.length
    · obtain ⟨M, V, c, d, c0, c1, c2, c3, c4, hm, hv⟩ := hc p hp
      obtain ⟨M', V', c', d', c0', c1', c2', c3', c4', hm', hv'⟩ := hc (p + 1) hlt
      have b0 : ((p : Int)) + 1 < (l.length : Int) := by omega
      have b1 : ((p : Int)) < (l.length : Int) := by omega
      obtain ⟨x, hx⟩ : ∃ x, l[p].frm = x := ⟨_, rfl⟩
      obtain ⟨y, hy⟩ : ∃ x, l[p + 1].frm = x := ⟨_, rfl⟩
      rw [hx] at c1
      rw [hy] at c1'
      have HX : Hid (l[p].frm = x) := hx
      have HY : Hid (l[p + 1].frm = y) := hy
      clear hx hy hc c0 c2 c3 c4 hm hv c0' c2' c3' c4' hm' hv'
      by_cases hxy : x < y
      · go_wp2
        go_quiet (fail)
        go_wp2
        go_roundw
        case rel => exact ⟨p + 1, hlt, by go_num, ⟨_, rfl⟩, fun j hj h => by
          by_cases e : j = p
          · subst e; rw [HX.out, HY.out]; exact hxy
          · exact HA.out j hj (by omega)⟩
        case measure => simp [intOf]; omega
      · go_wp2
        go_quiet (fail)
        go_wp2
        go_ret
        exact ⟨rfl, by rw [World.drewN_drewN]; exact belowN _ _ _⟩
    · have HSorted : Hid (∀ j (hj : j + 1 < l.length), l[j].frm < l[j + 1].frm) := fun j hj => HA.out j hj (by omega)
      have HC : Hid (∀ i (hi : i < l.length), SetAt w b (off + i * 5) l[i]) := hc
      have hsm := HS.out.2
      clear hc HA
      go_wp2_with fail
      refine (To.to_any _ l cap _ (HZ.out.later (belowN _ _ _)) hl16 hsm).mono ?_
      rintro e w1 ⟨rfl, hS1, hB1⟩
      have HBw1 : Hid (Below w.heap.size w w1) := (belowN _ _ _).trans hB1
      have HMw1 : Hid (Sets w1 (some ⟨w.heap.size, 0, none⟩) l) := hS1
      obtain ⟨M0, V0, d0, e0, -, c1, -, -, -, -, -⟩ := (HC.out (0) (by omega)).later HBw1.out
      clear hS1 hB1 hsm
      simp only [Nat.zero_mul, Nat.add_zero] at c1
      go_wp2_with fail
      refine (At.at_any _ l l.length (l[0].frm) _ HMw1.out hl16).mono ?_
      rintro e w2 hp2
      obtain ⟨hBw2, G0, G1, G2, G3, rfl, hG0, hG1⟩ := hp2.is (0) (by omega) (Int.le_refl _) (fun j hj h => mono_of HSorted.out h hj)
      clear hp2
      have HBw2 : Hid (Below w.heap.size w w2) := HBw1.out.trans (hBw2.mono HBw1.out.size)
      have HMw2 : Hid (Sets w2 (some ⟨w.heap.size, 0, none⟩) l) := HMw1.out.later hBw2
      obtain ⟨Ma, Va, ca, da, c0a, c1a, c2a, c3a, c4a, hma, hva⟩ := (HC.out (0) (by omega)).later HBw2.out
      simp only [Nat.zero_mul, Nat.add_zero] at c0a c1a c2a c3a c4a
      have hza : b < w2.heap.size := World.block_lt_of_cell? _ _ c0a
      have HLa : Hid (Lies w2 l[0] Ma Va) := ⟨hma, hva, (HS.out.2 _ _).1, (HS.out.2 _ _).2⟩
      have HKa : Hid (Lies w2 l[0] G0 G1) := ⟨hG0, hG1, (HS.out.2 _ _).1, (HS.out.2 _ _).2⟩
      clear hma hva hG0 hG1 hBw2 HMw1 HBw1
      go_wp2
      go_region_held3 (fun w' => w'.cell? ⟨b, off, none⟩ = some (.slice Ma l[0].mem.length ca) ∧ w'.cell? ⟨b, off + 1, none⟩ = some (.int .u64 l[0].frm) ∧ w'.cell? ⟨b, off + 2, none⟩ = some (.int .u64 l[0].idx) ∧ w'.cell? ⟨b, off + 3, none⟩ = some (.int .i64 l[0].win) ∧ w'.cell? ⟨b, off + 4, none⟩ = some (.slice Va l[0].val.length da) ∧ w'.cell? ⟨w2.heap.size, 0, none⟩ = some (.slice G0 l[0].mem.length G2) ∧ w'.cell? ⟨w2.heap.size, 1, none⟩ = some (.int .u64 l[0].frm) ∧ w'.cell? ⟨w2.heap.size, 2, none⟩ = some (.int .u64 l[0].idx) ∧ w'.cell? ⟨w2.heap.size, 3, none⟩ = some (.int .i64 l[0].win) ∧ w'.cell? ⟨w2.heap.size, 4, none⟩ = some (.slice G1 l[0].val.length G3)) (go_keep)
        (first
          | (go_at_call 11; refine (SameSet.sameIn_self l[0] G0 G1 Ma Va G2 G3 ca da _ ?_ ?_).mono ?_; (exact HKa.out.later ((Below.refl _ _).alloc (Nat.le_refl _) _).drew); (exact HLa.out.later ((Below.refl _ _).alloc (Nat.le_refl _) _).drew); rintro e w3 ⟨rfl, hbw3⟩; have Tw3 := through hbw3; have ka := And.intro (cellLater c0a Tw3) (And.intro (cellLater c1a Tw3) (And.intro (cellLater c2a Tw3) (And.intro (cellLater c3a Tw3) (cellLater c4a Tw3)))); have kka := newFive hbw3))
      have HBw3 : Hid (Below w.heap.size w w3) := HBw2.out.trans (Tw3.mono HBw2.out.size)
      have HMw3 : Hid (Sets w3 (some ⟨w.heap.size, 0, none⟩) l) := HMw2.out.later Tw3
      clear Tw3 hbw3 ka kka c0a c1a c2a c3a c4a HBw2 HMw2 HLa HKa hza
      obtain ⟨M1, V1, d1, e1, -, x1, -, -, -, -, -⟩ := (HC.out 0 (by omega)).later HBw3.out
      simp only [Nat.zero_mul, Nat.add_zero] at x1
      have hu1 := HU.out 0 hk
      obtain ⟨hu1, hu2⟩ := hu1
      by_cases hf0 : 0 < l[0].frm
      · have f1 : 1 ≤ l[0].frm := by omega
        go_wp2_with fail
        refine (At.at_any _ l l.length (l[0].frm - 1) _ HMw3.out hl16).mono ?_
        rintro e w4 hp2
        obtain ⟨hBw4, rfl⟩ := hp2.no (fun j hj => by
          by_cases e : j = 0
          · subst e; omega
          · have := mono_of HSorted.out (show 0 < j by omega) hj; omega)
        clear hp2
        have HBw4 : Hid (Below w.heap.size w w4) := HBw3.out.trans (hBw4.mono HBw3.out.size)
        have HMw4 : Hid (Sets w4 (some ⟨w.heap.size, 0, none⟩) l) := HMw3.out.later hBw4
        clear hBw4 HMw3 HBw3 x1
        go_wp2_with fail
        refine (SameSet.isZero_any _).mono ?_
        rintro e w5 ⟨rfl, hb5⟩
        have T5 := through' hb5
        have HBw5 : Hid (Below w.heap.size w w5) := HBw4.out.trans (T5.mono HBw4.out.size)
        have HMw5 : Hid (Sets w5 (some ⟨w.heap.size, 0, none⟩) l) := HMw4.out.later T5
        clear T5 hb5 HBw4 HMw4
        by_cases hnx : 0 + 1 < l.length
        · have hnx' : (1 : Int) < (l.length : Int) := by omega
          have hs2 : l[0].frm < l[1].frm := HSorted.out 0 hnx
          have hu3 := (HU.out 1 hnx).2
          have f2 : 1 ≤ l[1].frm := by omega
          obtain ⟨M2, V2, d2, e2, -, y1, -, -, -, -, -⟩ := (HC.out 1 (by omega)).later HBw5.out
          simp only [Nat.one_mul] at y1
          go_wp2_with fail
          refine (At.at_any _ l l.length (l[1].frm - 1) _ HMw5.out hl16).mono ?_
          rintro e w6 hp2
          obtain ⟨hBw6, J0, J1, J2, J3, rfl, hG0, hG1⟩ := hp2.is (0) (by omega) (by omega) (fun j hj h => by
            by_cases e : j = 1
            · subst e; omega
            · have := mono_of HSorted.out (show 1 < j by omega) hj; omega)
          clear hp2
          have HBw6 : Hid (Below w.heap.size w w6) := HBw5.out.trans (hBw6.mono HBw5.out.size)
          have HMw6 : Hid (Sets w6 (some ⟨w.heap.size, 0, none⟩) l) := HMw5.out.later hBw6
          obtain ⟨Mc, Vc, cc, dc, c0c, c1c, c2c, c3c, c4c, hmc, hvc⟩ := (HC.out (0) (by omega)).later HBw6.out
          simp only [Nat.zero_mul, Nat.add_zero] at c0c c1c c2c c3c c4c
          have hzc : b < w6.heap.size := World.block_lt_of_cell? _ _ c0c
          have HLc : Hid (Lies w6 l[0] Mc Vc) := ⟨hmc, hvc, (HS.out.2 _ _).1, (HS.out.2 _ _).2⟩
          have HKc : Hid (Lies w6 l[0] J0 J1) := ⟨hG0, hG1, (HS.out.2 _ _).1, (HS.out.2 _ _).2⟩
          clear hmc hvc hG0 hG1 hBw6 HMw5 HBw5
          go_wp2
          go_region_held3 (fun w' => w'.cell? ⟨b, off, none⟩ = some (.slice Mc l[0].mem.length cc) ∧ w'.cell? ⟨b, off + 1, none⟩ = some (.int .u64 l[0].frm) ∧ w'.cell? ⟨b, off + 2, none⟩ = some (.int .u64 l[0].idx) ∧ w'.cell? ⟨b, off + 3, none⟩ = some (.int .i64 l[0].win) ∧ w'.cell? ⟨b, off + 4, none⟩ = some (.slice Vc l[0].val.length dc) ∧ w'.cell? ⟨w6.heap.size, 0, none⟩ = some (.slice J0 l[0].mem.length J2) ∧ w'.cell? ⟨w6.heap.size, 1, none⟩ = some (.int .u64 l[0].frm) ∧ w'.cell? ⟨w6.heap.size, 2, none⟩ = some (.int .u64 l[0].idx) ∧ w'.cell? ⟨w6.heap.size, 3, none⟩ = some (.int .i64 l[0].win) ∧ w'.cell? ⟨w6.heap.size, 4, none⟩ = some (.slice J1 l[0].val.length J3)) (go_keep)
            (first
              | (go_at_call 11; refine (SameSet.sameIn_self l[0] J0 J1 Mc Vc J2 J3 cc dc _ ?_ ?_).mono ?_; (exact HKc.out.later ((Below.refl _ _).alloc (Nat.le_refl _) _).drew); (exact HLc.out.later ((Below.refl _ _).alloc (Nat.le_refl _) _).drew); rintro e w7 ⟨rfl, hbw7⟩; have Tw7 := through hbw7; have kc := And.intro (cellLater c0c Tw7) (And.intro (cellLater c1c Tw7) (And.intro (cellLater c2c Tw7) (And.intro (cellLater c3c Tw7) (cellLater c4c Tw7)))); have kkc := newFive hbw7))
          have HBw7 : Hid (Below w.heap.size w w7) := HBw6.out.trans (Tw7.mono HBw6.out.size)
          have HMw7 : Hid (Sets w7 (some ⟨w.heap.size, 0, none⟩) l) := HMw6.out.later Tw7
          clear Tw7 hbw7 kc kkc c0c c1c c2c c3c c4c HBw6 HMw6 HLc HKc hzc
          go_wp2
          go_ret
          exact ⟨rfl, HBw7.out⟩
        · have hnx' : ¬ (1 : Int) < (l.length : Int) := by omega
          go_wp2
          go_ret
          exact ⟨rfl, HBw5.out⟩
      · by_cases hnx : 0 + 1 < l.length
        · have hnx' : (1 : Int) < (l.length : Int) := by omega
          have hs2 : l[0].frm < l[1].frm := HSorted.out 0 hnx
          have hu3 := (HU.out 1 hnx).2
          have f2 : 1 ≤ l[1].frm := by omega
          obtain ⟨M2, V2, d2, e2, -, y1, -, -, -, -, -⟩ := (HC.out 1 (by omega)).later HBw3.out
          simp only [Nat.one_mul] at y1
          go_wp2_with fail
          refine (At.at_any _ l l.length (l[1].frm - 1) _ HMw3.out hl16).mono ?_
          rintro e w6 hp2
          obtain ⟨hBw6, J0, J1, J2, J3, rfl, hG0, hG1⟩ := hp2.is (0) (by omega) (by omega) (fun j hj h => by
            by_cases e : j = 1
            · subst e; omega
            · have := mono_of HSorted.out (show 1 < j by omega) hj; omega)
          clear hp2
          have HBw6 : Hid (Below w.heap.size w w6) := HBw3.out.trans (hBw6.mono HBw3.out.size)
          have HMw6 : Hid (Sets w6 (some ⟨w.heap.size, 0, none⟩) l) := HMw3.out.later hBw6
          obtain ⟨Mc, Vc, cc, dc, c0c, c1c, c2c, c3c, c4c, hmc, hvc⟩ := (HC.out (0) (by omega)).later HBw6.out
          simp only [Nat.zero_mul, Nat.add_zero] at c0c c1c c2c c3c c4c
          have hzc : b < w6.heap.size := World.block_lt_of_cell? _ _ c0c
          have HLc : Hid (Lies w6 l[0] Mc Vc) := ⟨hmc, hvc, (HS.out.2 _ _).1, (HS.out.2 _ _).2⟩
          have HKc : Hid (Lies w6 l[0] J0 J1) := ⟨hG0, hG1, (HS.out.2 _ _).1, (HS.out.2 _ _).2⟩
          clear hmc hvc hG0 hG1 hBw6 HMw3 HBw3
          go_wp2
          go_region_held3 (fun w' => w'.cell? ⟨b, off, none⟩ = some (.slice Mc l[0].mem.length cc) ∧ w'.cell? ⟨b, off + 1, none⟩ = some (.int .u64 l[0].frm) ∧ w'.cell? ⟨b, off + 2, none⟩ = some (.int .u64 l[0].idx) ∧ w'.cell? ⟨b, off + 3, none⟩ = some (.int .i64 l[0].win) ∧ w'.cell? ⟨b, off + 4, none⟩ = some (.slice Vc l[0].val.length dc) ∧ w'.cell? ⟨w6.heap.size, 0, none⟩ = some (.slice J0 l[0].mem.length J2) ∧ w'.cell? ⟨w6.heap.size, 1, none⟩ = some (.int .u64 l[0].frm) ∧ w'.cell? ⟨w6.heap.size, 2, none⟩ = some (.int .u64 l[0].idx) ∧ w'.cell? ⟨w6.heap.size, 3, none⟩ = some (.int .i64 l[0].win) ∧ w'.cell? ⟨w6.heap.size, 4, none⟩ = some (.slice J1 l[0].val.length J3)) (go_keep)
            (first
              | (go_at_call 11; refine (SameSet.sameIn_self l[0] J0 J1 Mc Vc J2 J3 cc dc _ ?_ ?_).mono ?_; (exact HKc.out.later ((Below.refl _ _).alloc (Nat.le_refl _) _).drew); (exact HLc.out.later ((Below.refl _ _).alloc (Nat.le_refl _) _).drew); rintro e w7 ⟨rfl, hbw7⟩; have Tw7 := through hbw7; have kc := And.intro (cellLater c0c Tw7) (And.intro (cellLater c1c Tw7) (And.intro (cellLater c2c Tw7) (And.intro (cellLater c3c Tw7) (cellLater c4c Tw7)))); have kkc := newFive hbw7))
          have HBw7 : Hid (Below w.heap.size w w7) := HBw6.out.trans (Tw7.mono HBw6.out.size)
          have HMw7 : Hid (Sets w7 (some ⟨w.heap.size, 0, none⟩) l) := HMw6.out.later Tw7
          clear Tw7 hbw7 kc kkc c0c c1c c2c c3c c4c HBw6 HMw6 HLc HKc hzc
          go_wp2
          go_ret
          exact ⟨rfl, HBw7.out⟩
        · have hnx' : ¬ (1 : Int) < (l.length : Int) := by omega
          go_wp2
          go_ret
          exact ⟨rfl, HBw3.out⟩

set_option maxHeartbeats 1000000 in
theorem each_out (A : Option Addr) (l : List MSet) (cap : Nat) (i : Int) (hi : i < 0 ∨ (l.length : Int) ≤ i) (w : World) (hz : Sets w A l) (hn : l.length ≤ 9223372036854775807) :
    Calls Try.prog 4 #[.slice A l.length cap, .int .i64 i] w fun e w' => e = .returned (.bool true) ∧ Below w.heap.size w w' := by
  have HZ : Hid (Sets w A l) := hz
  clear hz
  have hi' : i < 0 ∨ (¬ i < 0 ∧ (l.length : Int) ≤ i) := by omega
  clear hi
  rcases hi' with h | ⟨h', h⟩
  all_goals
    go_enter Try.func4, Try.ntmps4
    go_wp2_with fail
    refine (Sizes.zz12_any A l cap i _ HZ.out hn).mono ?_
    rintro e w' ⟨rfl, r, rfl, -⟩
    cases r
    · go_wp2
      go_ret
      exact ⟨rfl, Below.refl _ _⟩
    · go_wp2_with fail
      refine (Sizes.size_any A l cap _ HZ.out hn).mono ?_
      rintro e w' ⟨rfl, r, rfl, -⟩
      cases r
      all_goals
        go_wp2
        go_ret
        exact ⟨rfl, Below.refl _ _⟩

theorem each_any (A : Option Addr) (l : List MSet) (cap : Nat) (i : Int) (w : World) (hz : Sets w A l) (hn : l.length ≤ 9223372036854775807) (hu : ∀ j (hj : j < l.length), 0 ≤ l[j].frm ∧ l[j].frm ≤ 18446744073709551615) :
    Calls Try.prog 4 #[.slice A l.length cap, .int .i64 i] w fun e w' => e = .returned (.bool true) ∧ Below w.heap.size w w' := by
  by_cases h0 : i < 0
  · exact each_out A l cap i (Or.inl h0) w hz hn
  by_cases h1 : (l.length : Int) ≤ i
  · exact each_out A l cap i (Or.inr h1) w hz hn
  by_cases h2 : i = 0
  · subst h2
    exact each_zero A l cap (by omega) w hz hn hu
  · obtain ⟨q, rfl⟩ : ∃ q : Nat, i = (q : Int) + 1 := ⟨(i - 1).toNat, by omega⟩
    exact each_pos A l cap q (by omega) w hz hn hu
end Go.Proofs.Qxb6626293a.Each
