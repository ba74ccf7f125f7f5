import Derived.Test.Qxb6626327aClone
import Derived.Test.Qxb6626327aObs
import Derived.Test.Qxb6626327aHist
import Derived.Deep.RegionHeld3
import Derived.Deep.CutRange
namespace Go.Proofs.Qxb6626327a.Add
open Go.RowKit Plain Mem Small
set_option linter.unusedVariables false

set_option maxRecDepth 100000 in
set_option maxHeartbeats 8000000 in
theorem add_in (A CA Z : Option Addr) (bs zs : List Nat) (U : Nat → Int) (bc cc zc s k nc : Nat) (hnc : nc = bs.length + 1) (w : World)
    (hA : Vals w A bs.length (fl bs)) (hC : Vals w CA nc (un U)) (hZ : Vals w Z zs.length (fl zs)) (hUB : ∀ j, j < nc → 0 ≤ U j ∧ U j ≤ 18446744073709551615)
    (hn1 : bs.length ≤ 65535) (hn3 : zs.length ≤ 65536) (h8 : 8 * (bs.length + nc + zs.length) ≤ 1048576) (hk : k ≤ zs.length) :
    Calls Try.prog 4 #[.slice A bs.length bc, .slice CA nc cc, .float .f64 s, .slice Z zs.length zc, .int .i64 k] w fun e w' => e = .returned (.bool true) ∧ Below w.heap.size w w' := by
  obtain ⟨cb0, co0, rfl, -⟩ := hC.at (by omega)
  have H0 : Hid (Vals w A bs.length (fl bs) ∧ Vals w (some ⟨cb0, co0, none⟩) nc (un U) ∧ Vals w Z zs.length (fl zs)) := ⟨hA, hC, hZ⟩
  have HUB : Hid (∀ j, j < nc → 0 ≤ U j ∧ U j ≤ 18446744073709551615) := hUB
  have t1 : ¬ (65536 : Int) < (bs.length : Int) := by omega
  have t2 : ¬ (65536 : Int) < (nc : Int) := by omega
  have t3 : ¬ (65536 : Int) < (zs.length : Int) := by omega
  have t4 : ¬ (1048576 : Int) < 8 * ((bs.length : Int) + (nc : Int) + (zs.length : Int)) := by omega
  have HN : Hid (bs.length ≤ 65535 ∧ zs.length ≤ 65536 ∧ k ≤ zs.length ∧ nc = bs.length + 1) := ⟨hn1, hn3, hk, hnc⟩
  have t5 : (k : Int) ≤ (zs.length : Int) := by omega
  clear hA hC hZ hUB hn1 hn3 h8 hk hnc
  go_enter Try.func4, Try.ntmps4
  go_wp2_with fail
  refine (Small.zz17_any _ _ _ _ _ _ _ _ _ _ _ _).mono ?_
  rintro e w' ⟨rfl, r, rfl, -⟩
  cases r
  · go_wp2
    go_ret
    exact ⟨rfl, Below.refl _ _⟩
  go_wp2_with fail
  refine (Small.wf_any _ _ bs _ _ _ _ H0.out.1 (by have := HN.out; omega) (by have := HN.out; omega)).mono ?_
  rintro e w' ⟨⟨d0, rfl⟩, r, rfl, -⟩
  cases r
  · go_wp2
    go_ret
    exact ⟨rfl, belowN _ _ _⟩
  go_wp2_with fail
  refine (Clone.cloneF_any A bs bs.length _ _ (H0.out.1.later (belowN _ _ _)) (by have := HN.out; omega)).mono ?_
  rintro e w1 ⟨A1, cap1, rfl, hv1, hb1, -, -⟩
  have HB1 : Hid (Below w.heap.size w w1 ∧ Vals w1 A1 bs.length (fl bs)) := ⟨(belowN _ _ _).trans hb1, hv1⟩
  clear hv1 hb1
  go_wp2_with fail
  refine (Clone.cloneU_some _ U nc _ _ (H0.out.2.1.later HB1.out.1) (by have := HN.out; omega)).mono ?_
  rintro e w2 ⟨rfl, hr2, hb2⟩
  obtain ⟨c1, hc1⟩ : ∃ c, w1.heap.size = c := ⟨_, rfl⟩
  rw [hc1]
  have HB2 : Hid (Below w.heap.size w w2 ∧ Vals w2 A1 bs.length (fl bs) ∧ Vals w2 (some ⟨c1, 0, none⟩) nc (un U)) := ⟨HB1.out.1.trans (hb2.mono HB1.out.1.size), HB1.out.2.later hb2, by rw [← hc1]; exact vals_of_row hr2⟩
  clear hr2 hb2 HB1 hc1
  go_wp2_with fail
  refine (Clone.cloneF_any Z zs zs.length _ _ (H0.out.2.2.later HB2.out.1) (by have := HN.out; omega)).mono ?_
  rintro e w3 ⟨Z1, zc1, rfl, hv3, hb3, hzc, -⟩
  have HEw3 : Hid (Env w w3 A1 c1 Z1 bs nc U zs) := ⟨HB2.out.1.trans (hb3.mono HB2.out.1.size), HB2.out.2.1.later hb3, HB2.out.2.2.later hb3, hv3⟩
  clear hv3 hb3 HB2 H0
  go_wp2_with fail
  refine (Clone.cloneF_any A1 bs bs.length cap1 _ HEw3.out.2.1 (by have := HN.out; omega)).mono ?_
  rintro e w4 ⟨B1, bc1, rfl, hv, hb, -, ha⟩
  have HX : Hid (Vals w4 B1 bs.length (fl bs) ∧ Below w3.heap.size w3 w4 ∧ ∀ a, B1 = some a → w3.heap.size ≤ a.block ∧ a.block < w4.heap.size) := ⟨hv, hb, ha⟩
  clear hv hb ha
  go_wp2_with fail
  refine (Clone.cloneU_some ⟨c1, 0, none⟩ U nc _ _ (HEw3.out.2.2.1.later HX.out.2.1) (by have := HN.out; omega)).mono ?_
  rintro e w5 ⟨rfl, hrow, hb2⟩
  have HY : Hid (w5.rowIs w4.heap.size 33 nc (un U) ∧ Below w4.heap.size w4 w5) := ⟨hrow, hb2⟩
  clear hrow hb2
  go_wp2_with fail
  refine (Small.new_any B1 _ bs.length bc1 nc nc s _).mono ?_
  rintro e w6 ⟨rfl, hw⟩
  have hmk := mkHist (s := s) (bc := bc1) HX.out.2.1 HX.out.1 (fun a h => ⟨Nat.ne_of_lt (HX.out.2.2 a h).2, Nat.lt_of_lt_of_le (HX.out.2.2 a h).2 HY.out.2.size⟩) HY.out.2 HY.out.1
  rw [hw] at hmk
  have hs1 : w5.heap.size < w6.heap.size := by rw [← hw]; simp
  clear hw
  obtain ⟨h1, g1, hg1⟩ : ∃ h, w5.heap.size = h ∧ h < w6.heap.size := ⟨_, rfl, hs1⟩
  obtain ⟨k1, gk1, hgk1⟩ : ∃ k, w4.heap.size = k ∧ w3.heap.size ≤ k := ⟨_, rfl, HX.out.2.1.size⟩
  have hgl1 : w3.heap.size ≤ h1 := by rw [← g1]; exact Nat.le_trans HX.out.2.1.size HY.out.2.size
  rw [g1, gk1] at hmk
  rw [g1, gk1]
  have HP1 : Hid (Below w3.heap.size w3 w6) := hmk.2
  have HF1 : Hid (Filled w3 w6 h1 k1 B1 bc1 bs nc U s []) := Filled.start hmk.1 HUB.out hmk.2
  clear hmk HX HY g1 gk1 hs1
  go_wp2
  go_loopw [12] (fun i wr => ∃ m : Nat, m ≤ zs.length ∧ i = .int .i64 m ∧ Filled w3 wr h1 k1 B1 bc1 bs nc U s (zs.take m)) (fun i _ => zs.length - (intOf i).toNat)
  case atStart => exact ⟨0, Nat.zero_le _, rfl, HF1.out⟩
  case round =>
    obtain ⟨m, hle, rfl, hF⟩ := hrel
    obtain ⟨r1, hs, hH, hB, hl⟩ := hF
    have HS : Hid (Sums s (zs.take m) r1) := hs
    have HH : Hid (Hist wr h1 k1 B1 bc1 bs nc (cntC U bs (zs.take m)) r1) := hH
    have HBB : Hid (Below w3.heap.size w3 wr) := hB
    clear hs hH hB HF1
    by_cases hlt : m < zs.length
    · obtain ⟨b, off, rfl, hc⟩ := (HEw3.out.later HBB.out).2.2.2.at (by have := HN.out; omega)
      have b0 : ((m : Nat) : Int) < (zs.length : Int) := by have := HN.out; omega
      have b1 : m < zs.length := by have := HN.out; omega
      obtain ⟨x, hx⟩ : ∃ x, zs.getD (m) 0 = x := ⟨_, rfl⟩
      have c0 : wr.cell? ⟨b, off + (m), none⟩ = some (.float .f64 x) := by rw [← hx]; exact hc _ b1
      have HX : Hid (zs.getD (m) 0 = x) := hx
      clear hc hx
      go_wp2_with (go_at_call 10; refine (Obs.observe_any x HH.out (by have := HN.out; omega) (by have := HN.out; omega)).mono ?_; rintro e wy ⟨⟨y, rfl⟩, ⟨r', hf', hH'⟩, -, hbb⟩)
      go_roundw
      case rel => exact ⟨m + 1, by omega, by go_num, by rw [take_snoc _ _ (by have := HN.out; omega), HX.out]; exact Filled.next HS.out HBB.out hf' hH' (hbb _ hgl1 hgk1)⟩
      case measure => simp [intOf]; omega
    · obtain rfl : zs.length = m := by omega
      obtain ⟨w7, rfl⟩ : ∃ w', w' = wr := ⟨_, rfl⟩
      have HF1 : Hid (Sums s (zs.take (zs.length)) r1 ∧ Hist w7 h1 k1 B1 bc1 bs nc (cntC U bs (zs.take (zs.length))) r1) := ⟨HS.out, HH.out⟩
      have HEw7 : Hid (Env w w7 A1 c1 Z1 bs nc U zs) := HEw3.out.later HBB.out
      have HP1 : Hid (Below w3.heap.size w3 w7) := HBB.out
      clear HS HH HBB HEw3 hl hgl1 hgk1 hg1
      go_wp2_with fail
      refine (Clone.cloneF_any A1 bs bs.length cap1 _ HEw7.out.2.1 (by have := HN.out; omega)).mono ?_
      rintro e w8 ⟨B2, bc2, rfl, hv, hb, -, ha⟩
      have HX : Hid (Vals w8 B2 bs.length (fl bs) ∧ Below w7.heap.size w7 w8 ∧ ∀ a, B2 = some a → w7.heap.size ≤ a.block ∧ a.block < w8.heap.size) := ⟨hv, hb, ha⟩
      clear hv hb ha
      go_wp2_with fail
      refine (Clone.cloneU_some ⟨c1, 0, none⟩ U nc _ _ (HEw7.out.2.2.1.later HX.out.2.1) (by have := HN.out; omega)).mono ?_
      rintro e w9 ⟨rfl, hrow, hb2⟩
      have HY : Hid (w9.rowIs w8.heap.size 33 nc (un U) ∧ Below w8.heap.size w8 w9) := ⟨hrow, hb2⟩
      clear hrow hb2
      go_wp2_with fail
      refine (Small.new_any B2 _ bs.length bc2 nc nc s _).mono ?_
      rintro e w10 ⟨rfl, hw⟩
      have hmk := mkHist (s := s) (bc := bc2) HX.out.2.1 HX.out.1 (fun a h => ⟨Nat.ne_of_lt (HX.out.2.2 a h).2, Nat.lt_of_lt_of_le (HX.out.2.2 a h).2 HY.out.2.size⟩) HY.out.2 HY.out.1
      rw [hw] at hmk
      have hs2 : w9.heap.size < w10.heap.size := by rw [← hw]; simp
      clear hw
      obtain ⟨h2, g2, hg2⟩ : ∃ h, w9.heap.size = h ∧ h < w10.heap.size := ⟨_, rfl, hs2⟩
      obtain ⟨k2, gk2, hgk2⟩ : ∃ k, w8.heap.size = k ∧ w7.heap.size ≤ k := ⟨_, rfl, HX.out.2.1.size⟩
      have hgl2 : w7.heap.size ≤ h2 := by rw [← g2]; exact Nat.le_trans HX.out.2.1.size HY.out.2.size
      rw [g2, gk2] at hmk
      rw [g2, gk2]
      have HP2 : Hid (Below w7.heap.size w7 w10) := hmk.2
      have HF2 : Hid (Filled w7 w10 h2 k2 B2 bc2 bs nc U s []) := Filled.start hmk.1 HUB.out hmk.2
      clear hmk HX HY g2 gk2 hs2
      have HQ1 : Hid (Sums s (zs.take zs.length) r1 ∧ Hist w10 h1 k1 B1 bc1 bs nc (cntC U bs (zs.take zs.length)) r1) := ⟨HF1.out.1, HF1.out.2.later HP2.out⟩
      go_wp2
      go_loopw [14] (fun i wr => ∃ m : Nat, m ≤ k ∧ i = .int .i64 m ∧ Filled w7 wr h2 k2 B2 bc2 bs nc U s (zs.take m)) (fun i _ => zs.length - (intOf i).toNat)
      case atStart => exact ⟨0, Nat.zero_le _, rfl, HF2.out⟩
      case round =>
        obtain ⟨m, hle, rfl, hF⟩ := hrel
        obtain ⟨r2, hs, hH, hB, hl⟩ := hF
        have HS : Hid (Sums s (zs.take m) r2) := hs
        have HH : Hid (Hist wr h2 k2 B2 bc2 bs nc (cntC U bs (zs.take m)) r2) := hH
        have HBB : Hid (Below w7.heap.size w7 wr) := hB
        clear hs hH hB HF2
        by_cases hlt : m < k
        · obtain ⟨b, off, rfl, hc⟩ := (HEw7.out.later HBB.out).2.2.2.at (by have := HN.out; omega)
          have b0 : ((m : Nat) : Int) < (zs.length : Int) := by have := HN.out; omega
          have b1 : m < zs.length := by have := HN.out; omega
          obtain ⟨x, hx⟩ : ∃ x, zs.getD (m) 0 = x := ⟨_, rfl⟩
          have c0 : wr.cell? ⟨b, off + (m), none⟩ = some (.float .f64 x) := by rw [← hx]; exact hc _ b1
          have HX : Hid (zs.getD (m) 0 = x) := hx
          clear hc hx
          go_wp2_with (go_at_call 10; refine (Obs.observe_any x HH.out (by have := HN.out; omega) (by have := HN.out; omega)).mono ?_; rintro e wy ⟨⟨y, rfl⟩, ⟨r', hf', hH'⟩, -, hbb⟩)
          go_roundw
          case rel => exact ⟨m + 1, by omega, by go_num, by rw [take_snoc _ _ (by have := HN.out; omega), HX.out]; exact Filled.next HS.out HBB.out hf' hH' (hbb _ hgl2 hgk2)⟩
          case measure => simp [intOf]; omega
        · obtain rfl : k = m := by omega
          obtain ⟨w11, rfl⟩ : ∃ w', w' = wr := ⟨_, rfl⟩
          have HF2 : Hid (Sums s (zs.take (k)) r2 ∧ Hist w11 h2 k2 B2 bc2 bs nc (cntC U bs (zs.take (k))) r2) := ⟨HS.out, HH.out⟩
          have HEw11 : Hid (Env w w11 A1 c1 Z1 bs nc U zs) := HEw7.out.later HBB.out
          have HQ1' : Hid (Sums s (zs.take zs.length) r1 ∧ Hist w11 h1 k1 B1 bc1 bs nc (cntC U bs (zs.take zs.length)) r1) := ⟨HF1.out.1, HF1.out.2.later HBB.out⟩
          clear HS HH HBB HQ1 HF1 HEw7 hl hgl2 hgk2 hg2
          have hmk : ∀ w : World, (Instr.makeSlice 23 (.int .i64 ((bs.length : Int) + 1)) (.int .i64 ((bs.length : Int) + 1))).run Try.prog w = .ok (.slice (some ⟨w.heap.size, 0, none⟩) nc nc) (w.alloc (.cells (madeCells #[.int .u64 0] nc) 33)) := by
            intro w
            have hn := HN.out
            have e : (bs.length : Int) + 1 = (nc : Int) := by omega
            rw [e]
            exact run_make_row' (P := Try.prog) 23 33 (.int .u64 0) 8 Try.underlying23 Clone.info33 rfl .i64 .i64 nc (by omega) (by omega) w
          have hw1 : IntKind.i64.wrap ((bs.length : Int) + 1) = (bs.length : Int) + 1 := by have := HN.out; rw [IntKind.wrap_i64]; omega
          go_wp2
          go_cut [15] from 107 to 113 (fun p wz => ∃ h3 k3 B3 bc3, p = .pointer (some ⟨h3, 0, none⟩) ∧ Filled w11 wz h3 k3 B3 bc3 bs nc U0 0 [] ∧ w11.heap.size ≤ h3 ∧ w11.heap.size ≤ k3)
          case first =>
            go_region_held3 (fun w' => True) (trivial)
              (first
                | (go_at_call 7; refine (Clone.cloneF_any A1 bs bs.length cap1 _ (HEw11.out.2.1.later ?_) ?_).mono ?_; (first | exact (Below.refl _ _).drew | exact ((Below.refl _ _).alloc (Nat.le_refl _) _).drew); (have := HN.out; omega); rintro e w12 ⟨B3, bc3, rfl, hv, hb, -, ha⟩)
                | (go_at_call 9; refine (Small.new_any B3 _ bs.length bc3 nc nc 0 _).mono ?_; rintro e w13 ⟨rfl, hw⟩))
            all_goals
              go_wp2
              go_meet
            case rel => exact ⟨_, _, B3, bc3, rfl, mk1 hb hv ha hw⟩
            case rel => exact ⟨_, _, B3, bc3, rfl, mk2 hb hv ha hw⟩
          case rest =>
            obtain ⟨h3, k3, B3, bc3, rfl, hF3, hgl3, hgk3⟩ := hcut
            have HF3 : Hid (Filled w11 wc h3 k3 B3 bc3 bs nc U0 0 []) := hF3
            clear hF3 hmk hw1
            go_wp2
            go_loopw [16] (fun i wr => ∃ m : Nat, m ≤ zs.length - k ∧ i = .int .i64 ((k + m : Nat) : Int) ∧ Filled w11 wr h3 k3 B3 bc3 bs nc U0 0 ((zs.drop k).take m)) (fun i _ => zs.length - (intOf i).toNat)
            case atStart => exact ⟨0, Nat.zero_le _, rfl, HF3.out⟩
            case round =>
              obtain ⟨m, hle, rfl, hF⟩ := hrel
              obtain ⟨r3, hs, hH, hB, hl⟩ := hF
              have HS : Hid (Sums 0 ((zs.drop k).take m) r3) := hs
              have HH : Hid (Hist wr h3 k3 B3 bc3 bs nc (cntC U0 bs ((zs.drop k).take m)) r3) := hH
              have HBB : Hid (Below w11.heap.size w11 wr) := hB
              clear hs hH hB HF3
              by_cases hlt : m < zs.length - k
              · obtain ⟨b, off, rfl, hc⟩ := (HEw11.out.later HBB.out).2.2.2.at (by have := HN.out; omega)
                have b0 : ((k + m : Nat) : Int) < (zs.length : Int) := by have := HN.out; omega
                have b1 : k + m < zs.length := by have := HN.out; omega
                obtain ⟨x, hx⟩ : ∃ x, zs.getD (k + m) 0 = x := ⟨_, rfl⟩
                have c0 : wr.cell? ⟨b, off + (k + m), none⟩ = some (.float .f64 x) := by rw [← hx]; exact hc _ b1
                have HX : Hid (zs.getD (k + m) 0 = x) := hx
                clear hc hx
                go_wp2_with (go_at_call 10; refine (Obs.observe_any x HH.out (by have := HN.out; omega) (by have := HN.out; omega)).mono ?_; rintro e wy ⟨⟨y, rfl⟩, ⟨r', hf', hH'⟩, -, hbb⟩)
                go_roundw
                case rel => exact ⟨m + 1, by omega, by go_num, by rw [drop_snoc _ _ _ (by have := HN.out; omega), HX.out]; exact Filled.next HS.out HBB.out hf' hH' (hbb _ hgl3 hgk3)⟩
                case measure => simp [intOf]; omega
              · obtain rfl : zs.length - k = m := by omega
                obtain ⟨w14, rfl⟩ : ∃ w', w' = wr := ⟨_, rfl⟩
                have HF3 : Hid (Sums 0 ((zs.drop k).take (zs.length - k)) r3 ∧ Hist w14 h3 k3 B3 bc3 bs nc (cntC U0 bs ((zs.drop k).take (zs.length - k))) r3) := ⟨HS.out, HH.out⟩
                have HEw14 : Hid (Env w w14 A1 c1 Z1 bs nc U zs) := HEw11.out.later HBB.out
                have HG1 : Hid (Hist w14 h1 k1 B1 bc1 bs nc (cntC U bs zs) r1) := by have h := HQ1'.out.2.later HBB.out; rwa [List.take_length] at h
                have HG2 : Hid (Hist w14 h2 k2 B2 bc2 bs nc (cntC U bs (zs.take k)) r2) := HF2.out.2.later HBB.out
                have HG3 : Hid (Hist w14 h3 k3 B3 bc3 bs nc (cntC U0 bs (zs.drop k)) r3) := by have h := HF3.out.2; rwa [List.take_of_length_le (by rw [List.length_drop]; omega)] at h
                have HS1 : Hid (Sums s zs r1) := by have h := HQ1'.out.1; rwa [List.take_length] at h
                have HS2 : Hid (Sums s (zs.take k) r2) := HF2.out.1
                have HS3 : Hid (Sums 0 (zs.drop k) r3) := by have h := HF3.out.1; rwa [List.take_of_length_le (by rw [List.length_drop]; omega)] at h
                clear HS HH HBB HQ1' HF2 HF3 HEw11 hl hgl3 hgk3
                go_wp2_with fail
                refine (Small.counts_any HG1.out).mono ?_
                rintro e w' ⟨rfl, rfl⟩
                go_wp2_with fail
                refine (Small.counts_any HG2.out).mono ?_
                rintro e w' ⟨rfl, rfl⟩
                go_wp2_with fail
                refine (Small.counts_any HG3.out).mono ?_
                rintro e w' ⟨rfl, rfl⟩
                go_wp2
                go_loopw [20, 21, 22, 23] (fun t0 ta t2 i wr => ∃ (m : Nat) (a b c : Int) (d : Nat), m ≤ nc ∧ i = .int .i64 m ∧ t0 = .int .u64 a ∧ ta = .int .u64 b ∧ t2 = .int .u64 c ∧ wr = w14.drewN d ∧ Tot bs zs (zs.drop k) m a b c) (fun _ _ _ i _ => nc - (intOf i).toNat)
                case atStart => exact ⟨0, 0, 0, 0, 0, Nat.zero_le _, rfl, rfl, rfl, rfl, rfl, Tot.start _ _ _⟩
                case round =>
                  obtain ⟨m, a, b, c, d, hle', rfl, rfl, rfl, rfl, rfl, hT⟩ := hrel
                  have HT : Hid (Tot bs zs (zs.drop k) m a b c) := hT
                  clear hT
                  by_cases hlt' : m < nc
                  · have b0 : (m : Int) < (nc : Int) := by omega
                    obtain ⟨cb, co, hcA, hcc⟩ := HEw14.out.2.2.1.at (by omega)
                    cases hcA
                    have c0 := hcc m hlt'
                    rw [Nat.zero_add] at c0
                    have hT2 := HT.out.next U
                    have c1 := HG1.out.2.1.cell hlt'
                    have c2 := HG2.out.2.1.cell hlt'
                    have c3 := HG3.out.2.1.cell hlt'
                    unfold un at c0 c1 c2 c3
                    rw [split_eq U bs zs k m] at c1 hT2
                    obtain ⟨x1, hx1⟩ : ∃ x, cntC U bs (zs.take k) m = x := ⟨_, rfl⟩
                    obtain ⟨x2, hx2⟩ : ∃ x, cntC U0 bs (zs.drop k) m = x := ⟨_, rfl⟩
                    obtain ⟨u, hu⟩ : ∃ x, U m = x := ⟨_, rfl⟩
                    rw [hx1, hx2] at c1 hT2
                    rw [hx1] at c2
                    rw [hx2] at c3
                    rw [hu] at c0 hT2
                    have HT2 : Hid (Tot bs zs (zs.drop k) (m + 1) (IntKind.u64.wrap (a + u)) (IntKind.u64.wrap (b + IntKind.u64.wrap (x1 + x2))) (IntKind.u64.wrap (c + x2))) := hT2
                    clear hx1 hx2 hu hT2 hcc
                    go_wp2
                    go_quiet (fail)
                    go_wp2
                    go_roundw
                    case rel => exact ⟨m + 1, _, _, _, _, hlt', by go_num, rfl, rfl, rfl, rfl, HT2.out⟩
                    case measure => simp [intOf]; omega
                  · obtain rfl : nc = m := by omega
                    obtain ⟨e1, rfl⟩ := HT.out.ends (by have := HN.out; omega) (by have := HN.out; omega) (by have := HN.out; rw [List.length_drop]; omega)
                    rw [List.length_drop]
                    go_wp2_with fail
                    refine (Small.sum_any (HG1.out.later (belowN _ _ _))).mono ?_
                    rintro e w' ⟨rfl, rfl⟩
                    go_wp2_with fail
                    refine (Small.fold_any s zs.length Z1 zs zc1 _ rfl (HEw14.out.2.2.2.later (belowN _ _ _)) (by have := HN.out; omega)).mono ?_
                    rintro e w' ⟨q1, rfl, hq1, d1, rfl⟩
                    go_wp2_with fail
                    refine (Small.same_any _ _ (sums_same _ (Or.inl rfl) HS1.out hq1) _).mono ?_
                    rintro e w' ⟨rfl, rfl⟩
                    clear hq1
                    have tk : (k : Int) ≤ (zc1 : Int) := by have := HN.out; omega
                    go_wp2
                    go_region_held3 (fun w' => True) (trivial)
                      (first
                        | (go_at_call 13; refine (Small.sum_any (HG2.out.later ?_)).mono ?_; (exact belowN _ _ _); rintro e w' ⟨rfl, rfl⟩)
                        | (go_at_call 14; refine (Small.fold_any s k _ (zs.take k) zc1 _ ?_ (vals_take (HEw14.out.2.2.2.later ?_) k ?_) ?_).mono ?_; (have := HN.out; rw [List.length_take]; omega); (exact belowN _ _ _); (have := HN.out; omega); (have := HN.out; omega); rintro e w' ⟨q2, rfl, hq2, d2, rfl⟩)
                        | (go_at_call 12; refine (Small.same_any _ _ (sums_same _ (Or.inl rfl) HS2.out hq2) _).mono ?_; rintro e w' ⟨rfl, rfl⟩))
                    clear hq2
                    go_wp2
                    by_cases hkz : k < zs.length
                    · obtain ⟨b', off', rfl, hcz⟩ := HEw14.out.2.2.2.at (by omega)
                      have HV : Hid (Vals w14 (some ⟨b', off' + k, none⟩) (zs.length - k) (fl (zs.drop k))) := vals_drop hcz k
                      have hzk : ¬ zc1 = k := by omega
                      clear hcz
                      go_region_held3 (fun w' => True) (trivial)
                        (first
                          | (go_at_call 13; refine (Small.sum_any (HG3.out.later ?_)).mono ?_; (exact belowN _ _ _); rintro e w' ⟨rfl, rfl⟩)
                          | (go_at_call 14; refine (Small.fold_any 0 (zs.length - k) _ (zs.drop k) _ _ ?_ ?_ ?_).mono ?_; (rw [List.length_drop]); (exact HV.out.later (belowN _ _ _)); (have := HN.out; omega); rintro e w' ⟨q3, rfl, hq3, d3, rfl⟩)
                          | (go_at_call 12; refine (Small.same_any _ _ (sums_same _ (Or.inl rfl) HS3.out hq3) _).mono ?_; rintro e w' ⟨rfl, rfl⟩))
                      go_wp2
                      go_ret
                      exact ⟨rfl, HEw14.out.1.trans (belowN _ _ _)⟩
                    · have hkz' : zs.length ≤ 65536 := by have := HN.out; omega
                      by_cases hzk : zc1 = k
                      · subst hzk
                        go_region_held3 (fun w' => True) (trivial)
                          (first
                            | (go_at_call 13; refine (Small.sum_any (HG3.out.later ?_)).mono ?_; (exact belowN _ _ _); rintro e w' ⟨rfl, rfl⟩)
                            | (go_at_call 14; refine (Small.fold_any 0 _ _ (zs.drop zc1) _ _ ?_ ?_ ?_).mono ?_; (rw [List.length_drop]; omega); (exact Or.inl (by omega)); (omega); rintro e w' ⟨q3, rfl, hq3, d3, rfl⟩)
                            | (go_at_call 12; refine (Small.same_any _ _ (sums_same _ (Or.inl rfl) HS3.out hq3) _).mono ?_; rintro e w' ⟨rfl, rfl⟩))
                        go_wp2
                        go_ret
                        exact ⟨rfl, HEw14.out.1.trans (belowN _ _ _)⟩
                      · go_region_held3 (fun w' => True) (trivial)
                          (first
                            | (go_at_call 13; refine (Small.sum_any (HG3.out.later ?_)).mono ?_; (exact belowN _ _ _); rintro e w' ⟨rfl, rfl⟩)
                            | (go_at_call 14; refine (Small.fold_any 0 _ _ (zs.drop k) _ _ ?_ ?_ ?_).mono ?_; (have hld : (zs.drop k).length = zs.length - k := List.length_drop ..; omega); (exact Or.inl (by omega)); (omega); rintro e w' ⟨q3, rfl, hq3, d3, rfl⟩)
                            | (go_at_call 12; refine (Small.same_any _ _ (sums_same _ (Or.inl rfl) HS3.out hq3) _).mono ?_; rintro e w' ⟨rfl, rfl⟩))
                        go_wp2
                        go_ret
                        exact ⟨rfl, HEw14.out.1.trans (belowN _ _ _)⟩

end Go.Proofs.Qxb6626327a.Add
