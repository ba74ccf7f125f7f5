import Derived.Test.Qxb6626327aClone
import Derived.Test.Qxb6626327aObs
import Derived.Test.Qxb6626327aOrd
import Derived.Deep.RegionHeld3
import Derived.Deep.CutRange
namespace Go.Proofs.Qxb6626327a.Cum
open Go.RowKit Plain Mem Small
set_option linter.unusedVariables false

set_option maxHeartbeats 1000000 in
theorem sameBounds_any (A B : Option Addr) (bs : List Nat) (c d : Nat) (w : World) (hA : Vals w A bs.length (fl bs)) (hB : Vals w B bs.length (fl bs)) (hn : bs.length ≤ 1048576) (hq : ∀ i, i < bs.length → FloatKind.f64.format.order (bs.getD i 0) (bs.getD i 0) = some .eq) :
    Calls Try.prog 15 #[.slice A bs.length c, .slice B bs.length d] w fun e w' => e = .returned (.bool true) ∧ ∃ n, w' = w.drewN n := by
  have HA : Hid (Vals w A bs.length (fl bs)) := hA
  have HB : Hid (Vals w B bs.length (fl bs)) := hB
  have HQ : Hid (∀ i, i < bs.length → FloatKind.f64.format.order (bs.getD i 0) (bs.getD i 0) = some .eq) := hq
  clear hA hB hq
  go_enter Try.func15, Try.ntmps15
  go_wp2
  go_loopw [5] (fun i wr => ∃ m : Nat, m ≤ bs.length ∧ i = .int .i64 m ∧ ∃ d, wr = w.drewN d) (fun i _ => bs.length - (intOf i).toNat)
  case atStart => exact ⟨0, Nat.zero_le _, rfl, 0, rfl⟩
  case round =>
    obtain ⟨m, hle, rfl, d, rfl⟩ := hrel
    by_cases hlt : m < bs.length
    · obtain ⟨b, off, rfl, hc⟩ := HA.out.at (by omega)
      obtain ⟨b2, off2, rfl, hc2⟩ := HB.out.at (by omega)
      have b1 : ((m : Int)) < (bs.length : Int) := by omega
      have g1 := hc m hlt
      have g2 := hc2 m hlt
      have he := HQ.out m hlt
      unfold fl at g1 g2
      obtain ⟨x, hx⟩ : ∃ x, bs.getD m 0 = x := ⟨_, rfl⟩
      rw [hx] at g1 g2 he
      clear hx hc hc2
      have he' : (FloatKind.f64.format.order x x != some .eq) = false := by simpa using he
      go_wp2
      go_quiet (fail)
      go_wp2
      go_roundw
      case rel => exact ⟨m + 1, hlt, by go_num, _, rfl⟩
      case measure => simp [intOf]; omega
    · go_wp2
      go_ret
      exact ⟨rfl, d, rfl⟩

set_option maxRecDepth 100000 in
set_option maxHeartbeats 8000000 in
theorem cum_in (A CA Z : Option Addr) (bs zs : List Nat) (U : Nat → Int) (bc cc zc s nc : Nat) (hnc : nc = bs.length + 1) (w : World)
    (hA : Vals w A bs.length (fl bs)) (hC : Vals w CA nc (un U)) (hZ : Vals w Z zs.length (fl zs)) (hUB : ∀ j, j < nc → 0 ≤ U j ∧ U j ≤ 18446744073709551615)
    (hn1 : bs.length ≤ 65535) (hn3 : zs.length ≤ 65536) (h8 : 8 * (bs.length + nc + zs.length) ≤ 1048576) :
    Calls Try.prog 3 #[.slice A bs.length bc, .slice CA nc cc, .float .f64 s, .slice Z zs.length zc] w fun e w' => e = .returned (.bool true) ∧ Below w.heap.size w w' := by
  obtain ⟨cb0, co0, rfl, -⟩ := hC.at (by omega)
  have H0 : Hid (Vals w A bs.length (fl bs) ∧ Vals w (some ⟨cb0, co0, none⟩) nc (un U) ∧ Vals w Z zs.length (fl zs)) := ⟨hA, hC, hZ⟩
  have HUB : Hid (∀ j, j < nc → 0 ≤ U j ∧ U j ≤ 18446744073709551615) := hUB
  have t1 : ¬ (65536 : Int) < (bs.length : Int) := by omega
  have t2 : ¬ (65536 : Int) < (nc : Int) := by omega
  have t3 : ¬ (65536 : Int) < (zs.length : Int) := by omega
  have t4 : ¬ (1048576 : Int) < 8 * ((bs.length : Int) + (nc : Int) + (zs.length : Int)) := by omega
  have HN : Hid (bs.length ≤ 65535 ∧ zs.length ≤ 65536 ∧ nc = bs.length + 1) := ⟨hn1, hn3, hnc⟩
  clear hA hC hZ hUB hn1 hn3 h8 hnc
  go_enter Try.func3, Try.ntmps3
  go_wp2_with fail
  refine (Small.zz5_any _ _ _ _ _ _ _ _ _ _ _).mono ?_
  rintro e w' ⟨rfl, r, rfl, -⟩
  cases r
  · go_wp2
    go_ret
    exact ⟨rfl, Below.refl _ _⟩
  go_wp2_with fail
  refine (Small.wf_any _ _ bs _ _ _ _ H0.out.1 (by have := HN.out; omega) (by have := HN.out; omega)).mono ?_
  rintro e w' ⟨⟨d0, rfl⟩, r, rfl, hr⟩
  cases r
  · go_wp2
    go_ret
    exact ⟨rfl, belowN _ _ _⟩
  have HWF : Hid (WF bs nc) := hr rfl
  clear hr
  go_wp2_with fail
  refine (Clone.cloneF_any A bs bs.length _ _ (H0.out.1.later (belowN _ _ _)) (by have := HN.out; omega)).mono ?_
  rintro e w1 ⟨A1, cap1, rfl, hv1, hb1, -, -⟩
  have HB1 : Hid (Below w.heap.size w w1 ∧ Vals w1 A1 bs.length (fl bs)) := ⟨(belowN _ _ _).trans hb1, hv1⟩
  clear hv1 hb1
  go_wp2_with fail
  refine (Clone.cloneU_some _ U nc _ _ (H0.out.2.1.later HB1.out.1) (by have := HN.out; omega)).mono ?_
  rintro e w2 ⟨rfl, hr2, hb2⟩
  obtain ⟨c1, hc1⟩ : ∃ c, w1.heap.size = c := ⟨_, rfl⟩
  rw [hc1]
  have HB2 : Hid (Below w.heap.size w w2 ∧ Vals w2 A1 bs.length (fl bs) ∧ Vals w2 (some ⟨c1, 0, none⟩) nc (un U)) := ⟨HB1.out.1.trans (hb2.mono HB1.out.1.size), HB1.out.2.later hb2, by rw [← hc1]; exact vals_of_row hr2⟩
  clear hr2 hb2 HB1 hc1
  go_wp2_with fail
  refine (Clone.cloneF_any Z zs zs.length _ _ (H0.out.2.2.later HB2.out.1) (by have := HN.out; omega)).mono ?_
  rintro e w3 ⟨Z1, zc1, rfl, hv3, hb3, hzc, -⟩
  have HEw3 : Hid (Env w w3 A1 c1 Z1 bs nc U zs) := ⟨HB2.out.1.trans (hb3.mono HB2.out.1.size), HB2.out.2.1.later hb3, HB2.out.2.2.later hb3, hv3⟩
  clear hv3 hb3 HB2 H0 hzc
  go_wp2_with fail
  refine (Clone.cloneF_any A1 bs bs.length cap1 _ HEw3.out.2.1 (by have := HN.out; omega)).mono ?_
  rintro e w4 ⟨B1, bc1, rfl, hv, hb, -, ha⟩
  have HX : Hid (Vals w4 B1 bs.length (fl bs) ∧ Below w3.heap.size w3 w4 ∧ ∀ a, B1 = some a → w3.heap.size ≤ a.block ∧ a.block < w4.heap.size) := ⟨hv, hb, ha⟩
  clear hv hb ha
  go_wp2_with fail
  refine (Clone.cloneU_some ⟨c1, 0, none⟩ U nc _ _ (HEw3.out.2.2.1.later HX.out.2.1) (by have := HN.out; omega)).mono ?_
  rintro e w5 ⟨rfl, hrow, hb2⟩
  have HY : Hid (w5.rowIs w4.heap.size 33 nc (un U) ∧ Below w4.heap.size w4 w5) := ⟨hrow, hb2⟩
  clear hrow hb2
  go_wp2_with fail
  refine (Small.new_any B1 _ bs.length bc1 nc nc s _).mono ?_
  rintro e w6 ⟨rfl, hw⟩
  have hmk := mkHist (s := s) (bc := bc1) HX.out.2.1 HX.out.1 (fun a h => ⟨Nat.ne_of_lt (HX.out.2.2 a h).2, Nat.lt_of_lt_of_le (HX.out.2.2 a h).2 HY.out.2.size⟩) HY.out.2 HY.out.1
  rw [hw] at hmk
  have hs1 : w5.heap.size < w6.heap.size := by rw [← hw]; simp
  clear hw
  obtain ⟨h1, g1, hg1⟩ : ∃ h, w5.heap.size = h ∧ h < w6.heap.size := ⟨_, rfl, hs1⟩
  obtain ⟨k1, gk1, hgk1⟩ : ∃ k, w4.heap.size = k ∧ w3.heap.size ≤ k := ⟨_, rfl, HX.out.2.1.size⟩
  have hgl1 : w3.heap.size ≤ h1 := by rw [← g1]; exact Nat.le_trans HX.out.2.1.size HY.out.2.size
  rw [g1, gk1] at hmk
  rw [g1, gk1]
  have HP1 : Hid (Below w3.heap.size w3 w6) := hmk.2
  have HF1 : Hid (Filled w3 w6 h1 k1 B1 bc1 bs nc U s []) := Filled.start hmk.1 HUB.out hmk.2
  clear hmk HX HY g1 gk1 hs1
  go_wp2
  go_loopw [10] (fun i wr => ∃ m : Nat, m ≤ zs.length ∧ i = .int .i64 m ∧ Filled w3 wr h1 k1 B1 bc1 bs nc U s (zs.take m)) (fun i _ => zs.length - (intOf i).toNat)
  case atStart => exact ⟨0, Nat.zero_le _, rfl, HF1.out⟩
  case round =>
    obtain ⟨m, hle, rfl, hF⟩ := hrel
    obtain ⟨r1, hs, hH, hB, hl⟩ := hF
    have HS : Hid (Sums s (zs.take m) r1) := hs
    have HH : Hid (Hist wr h1 k1 B1 bc1 bs nc (cntC U bs (zs.take m)) r1) := hH
    have HBB : Hid (Below w3.heap.size w3 wr) := hB
    clear hs hH hB HF1
    by_cases hlt : m < zs.length
    · obtain ⟨b, off, rfl, hc⟩ := (HEw3.out.later HBB.out).2.2.2.at (by have := HN.out; omega)
      have b0 : ((m : Nat) : Int) < (zs.length : Int) := by have := HN.out; omega
      have b1 : m < zs.length := by have := HN.out; omega
      obtain ⟨x, hx⟩ : ∃ x, zs.getD (m) 0 = x := ⟨_, rfl⟩
      have c0 : wr.cell? ⟨b, off + (m), none⟩ = some (.float .f64 x) := by rw [← hx]; exact hc _ b1
      have HX : Hid (zs.getD (m) 0 = x) := hx
      clear hc hx
      go_wp2_with (go_at_call 10; refine (Obs.observe_any x HH.out (by have := HN.out; omega) (by have := HN.out; omega)).mono ?_; rintro e wy ⟨⟨y, rfl⟩, ⟨r', hf', hH'⟩, -, hbb⟩)
      go_roundw
      case rel => exact ⟨m + 1, by omega, by go_num, by rw [take_snoc _ _ (by have := HN.out; omega), HX.out]; exact Filled.next HS.out HBB.out hf' hH' (hbb _ hgl1 hgk1)⟩
      case measure => simp [intOf]; omega
    · obtain rfl : zs.length = m := by omega
      obtain ⟨w7, rfl⟩ : ∃ w', w' = wr := ⟨_, rfl⟩
      have HF1 : Hid (Sums s (zs.take (zs.length)) r1 ∧ Hist w7 h1 k1 B1 bc1 bs nc (cntC U bs (zs.take (zs.length))) r1) := ⟨HS.out, HH.out⟩
      have HEw7 : Hid (Env w w7 A1 c1 Z1 bs nc U zs) := HEw3.out.later HBB.out
      have HG1 : Hid (Hist w7 h1 k1 B1 bc1 bs nc (cntC U bs zs) r1) := by have h := HF1.out.2; rwa [List.take_length] at h
      have HS1 : Hid (Sums s zs r1) := by have h := HF1.out.1; rwa [List.take_length] at h
      clear HS HH HBB HF1 HEw3 hl hgl1 hgk1 hg1 HP1
      go_wp2_with fail
      refine (Small.counts_any HG1.out).mono ?_
      rintro e w' ⟨rfl, rfl⟩
      go_wp2
      go_loopw [12, 13, 14] (fun ta tb i wr => ∃ (m : Nat) (a b c : Int) (d : Nat), m ≤ nc ∧ i = .int .i64 m ∧ ta = .int .u64 a ∧ tb = .int .u64 b ∧ wr = w7.drewN d ∧ Tot bs zs [] m a b c) (fun _ _ i _ => nc - (intOf i).toNat)
      case atStart => exact ⟨0, 0, 0, 0, 0, Nat.zero_le _, rfl, rfl, rfl, rfl, Tot.start _ _ _⟩
      case round =>
        obtain ⟨m, a, b, c, d, hle', rfl, rfl, rfl, rfl, hT⟩ := hrel
        have HT : Hid (Tot bs zs [] m a b c) := hT
        clear hT
        by_cases hlt' : m < nc
        · have b0 : (m : Int) < (nc : Int) := by omega
          obtain ⟨cb, co, hcA, hcc⟩ := HEw7.out.2.2.1.at (by omega)
          cases hcA
          have c0 := hcc m hlt'
          rw [Nat.zero_add] at c0
          have hT2 := HT.out.next U
          have c1 := HG1.out.2.1.cell hlt'
          unfold un at c0 c1
          obtain ⟨x1, hx1⟩ : ∃ x, cntC U bs zs m = x := ⟨_, rfl⟩
          obtain ⟨u, hu⟩ : ∃ x, U m = x := ⟨_, rfl⟩
          rw [hx1] at c1 hT2
          rw [hu] at c0 hT2
          have HT2 : Hid (Tot bs zs [] (m + 1) (IntKind.u64.wrap (a + u)) (IntKind.u64.wrap (b + x1)) (IntKind.u64.wrap (c + cntC U0 bs [] m))) := hT2
          have hdiff : IntKind.u64.wrap (IntKind.u64.wrap (b + x1) - IntKind.u64.wrap (a + u)) = (below bs zs (m + 1) : Int) := hT2.diff (by have := HN.out; omega)
          clear hx1 hu hT2 hcc
          by_cases hme : m = bs.length
          · have hba : below bs zs (m + 1) = zs.length := below_all _ _ _ (by omega)
            rw [hba] at hdiff
            have hme' : ((m : Int) == (bs.length : Int)) = true := by simp [hme]
            have HME : Hid (m = bs.length) := hme
            clear hba hme
            go_wp2
            go_roundw
            case rel => exact ⟨m + 1, _, _, _, _, hlt', by go_num, rfl, rfl, rfl, HT2.out⟩
            case measure => simp [intOf]; omega
          · have hme' : ((m : Int) == (bs.length : Int)) = false := by simp; omega
            have hmb : m < bs.length := by have := HN.out; omega
            have hbl := below_le bs zs (m + 1)
            obtain ⟨y, hy⟩ : ∃ y, bs.getD m 0 = y := ⟨_, rfl⟩
            obtain ⟨ab, ao, hA1, hca⟩ := HEw7.out.2.1.at (by omega)
            have gy : w7.cell? ⟨ab, ao + m, none⟩ = some (.float .f64 y) := by rw [← hy]; exact hca m hmb
            have HNA : Hid (notAbove y zs = below bs zs (m + 1)) := by rw [← hy]; exact notAbove_is bs zs HWF.out.2.2 m hmb
            clear hca hy hme
            subst hA1
            go_wp2
            go_loopw [15, 16] (fun wn i wr => ∃ (q n0 d' : Nat), q ≤ zs.length ∧ i = .int .i64 q ∧ wn = .int .u64 n0 ∧ wr = w7.drewN d' ∧ notAbove y (zs.take q) = n0) (fun _ i _ => zs.length - (intOf i).toNat)
            case atStart => exact ⟨0, 0, d, Nat.zero_le _, rfl, rfl, rfl, rfl⟩
            case round =>
              obtain ⟨q, n0, d', hq, rfl, rfl, rfl, hn0⟩ := hrel
              have hnb : n0 ≤ q := by have h1 := notAbove_le y (zs.take q); have h2 := List.length_take_le q zs; omega
              have HN0 : Hid (notAbove y (zs.take q) = n0) := hn0
              clear hn0
              by_cases hlq : q < zs.length
              · obtain ⟨zb, zo, rfl, hcz⟩ := HEw7.out.2.2.2.at (by omega)
                obtain ⟨x, hx⟩ : ∃ x, zs.getD q 0 = x := ⟨_, rfl⟩
                have gx : w7.cell? ⟨zb, zo + q, none⟩ = some (.float .f64 x) := by rw [← hx]; exact hcz q hlq
                have HSN : Hid (notAbove y (zs.take (q + 1)) = n0 + if gtB x y = true then 0 else 1) := by unfold Hid; rw [take_snoc _ _ hlq, hx, notAbove_snoc, HN0.out]
                have bq : (q : Int) < (zs.length : Int) := by omega
                have bm : (m : Int) < (bs.length : Int) := by omega
                have bn : (n0 : Int) ≤ 65536 := by have := HN.out; omega
                clear hcz hx
                by_cases hg : gtB x y = true
                · have HR : Hid (notAbove y (zs.take (q + 1)) = n0) := by have h := HSN.out; rwa [if_pos hg] at h
                  unfold gtB at hg
                  clear HSN
                  go_wp2
                  go_quiet (fail)
                  go_wp2
                  go_roundw
                  case rel => exact ⟨q + 1, n0, _, hlq, by go_num, rfl, rfl, HR.out⟩
                  case measure => simp [intOf]; omega
                · have HR : Hid (notAbove y (zs.take (q + 1)) = n0 + 1) := by have h := HSN.out; rwa [if_neg hg] at h
                  have hg' : gtB x y = false := by simpa using hg
                  unfold gtB at hg'
                  clear HSN hg
                  go_wp2
                  go_quiet (fail)
                  go_wp2
                  go_roundw
                  case rel => exact ⟨q + 1, n0 + 1, _, hlq, by go_num, by go_num, rfl, HR.out⟩
                  case measure => simp [intOf]; omega
              · obtain rfl : n0 = below bs zs (m + 1) := by have h := HN0.out; rw [List.take_of_length_le (by omega)] at h; rw [← h]; exact HNA.out
                go_wp2
                go_roundw
                case rel => exact ⟨m + 1, _, _, _, _, hlt', by go_num, rfl, rfl, rfl, HT2.out⟩
                case measure => simp [intOf]; omega
        · go_wp2_with fail
          refine (Small.sum_any (HG1.out.later (belowN _ _ _))).mono ?_
          rintro e w' ⟨rfl, rfl⟩
          go_wp2_with fail
          refine (Small.fold_any s zs.length Z1 zs zc1 _ rfl (HEw7.out.2.2.2.later (belowN _ _ _)) (by have := HN.out; omega)).mono ?_
          rintro e w' ⟨q1, rfl, hq1, d1, rfl⟩
          go_wp2_with fail
          refine (Small.same_any _ _ (sums_same _ (Or.inl rfl) HS1.out hq1) _).mono ?_
          rintro e w' ⟨rfl, rfl⟩
          clear hq1
          go_wp2_with fail
          refine (Small.bounds_any (HG1.out.later (belowN _ _ _))).mono ?_
          rintro e w' ⟨rfl, rfl⟩
          go_wp2_with fail
          refine (sameBounds_any _ _ bs _ _ _ (HG1.out.2.2.1.later (belowN _ _ _)) (HEw7.out.2.1.later (belowN _ _ _)) (by have := HN.out; omega) HWF.out.2.1).mono ?_
          rintro e w' ⟨rfl, d2, rfl⟩
          go_wp2
          go_ret
          exact ⟨rfl, HEw7.out.1.trans (belowN _ _ _)⟩

end Go.Proofs.Qxb6626327a.Cum
