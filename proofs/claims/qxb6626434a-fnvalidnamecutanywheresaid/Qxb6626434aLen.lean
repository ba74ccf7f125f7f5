import Derived.Test.Qxb6626434aName
import Derived.Deep.OwnRows
import Derived.Deep.RegionWith
import Derived.Laws.BytesArg
namespace Go.Proofs.Qxb6626434a.Len
open Go.RowKit Name
set_option linter.unusedVariables false

theorem info5 : (Try.prog.info? 5).map (fun i => (i.zero, i.size, i.bytes)) = some (some (.int .u8 0), 1, 1) := by kernel_rfl

theorem valid_eq (r : Bool) (s : ByteArray) (hr : vB s.data.toList = r) (hs : s.size ≤ 1048576) (w : World) : Calls Try.prog 6 #[.string s] w fun e w' => e = .returned (.bool r) ∧ w = w' := by
  subst hr
  exact valid_any s hs w

theorem cut_one (s : ByteArray) (k : Nat) (h : k < s.size) (w : World) : (Instr.slice 9 (.string s) (some (.int .i64 (k : Int))) (some (.int .i64 ((k : Int) + 1))) none).run Try.prog w = .ok (.string (s.extract k (k + 1))) w := by
  have h := run_slice_string (P := Try.prog) w 9 s .i64 .i64 k (k + 1) Try.underlying9 (by omega) (by omega) (by omega)
  have e : ((k : Int) + 1).toNat = k + 1 := by omega
  rw [e, Int.toNat_natCast] at h
  exact h

theorem one_is (s : ByteArray) (k : Nat) (h : k < s.size) : vB (s.extract k (k + 1)).data.toList = nbI (s[k].toNat : Int) := by
  have h' : k < s.data.toList.length := by simpa using h
  have e : (s.extract k (k + 1)).data.toList = [s[k]] := by
    rw [Lib.extract_data, show k + 1 - k = 1 by omega, List.drop_eq_getElem_cons h']
    rfl
  rw [e]
  simp [vB, lenB, allB]

theorem rep_is (n : Nat) (r : Bool) (hr : lenB n = r) : vB (strOfNums (List.replicate n 97)).data.toList = r := by
  subst hr
  unfold vB
  rw [strOfNums_data]
  have ha : allB ((List.replicate n 97).map fun n : Int => UInt8.ofNat n.toNat) = true := by
    unfold allB
    rw [List.map_replicate, List.all_replicate]
    simp [nbI]
  rw [ha]
  simp

theorem zz5_any (s : ByteArray) (h : s.size ≤ 4096) (w : World) : Calls Try.prog 5 #[.string s] w fun e w' => e = .returned (.bool true) ∧ w = w' := by
  have t0 : ¬ (1048576 : Int) < (s.size : Int) := by omega
  go_enter Try.func5, Try.ntmps5
  go_wp2
  go_ret
  exact ⟨rfl, rfl⟩

/-- Some bool; the world as it was. -/
def Some1 (w : World) (e : Ending) (w' : World) : Prop := ∃ r, e = .returned (.bool r) ∧ w = w'

theorem zz5_big (s : ByteArray) (w : World) : Calls Try.prog 5 #[.string s] w (Some1 w) := by
  by_cases t0 : (1048576 : Int) < (s.size : Int)
  · go_enter Try.func5, Try.ntmps5
    go_wp2
    go_ret
    exact ⟨_, rfl, rfl⟩
  · go_enter Try.func5, Try.ntmps5
    go_wp2
    go_ret
    exact ⟨_, rfl, rfl⟩

set_option maxHeartbeats 4000000 in
theorem len_midt (s : ByteArray) (w : World) (h0 : s.size ≤ 4096) (hn : 1 ≤ s.size) (hn' : s.size ≤ 128) (hall : allB s.data.toList = true) :
    Calls Try.prog 3 #[.string s] w fun e w' => e = .returned (.bool true) ∧ Below w.heap.size w w' := by
  have hsz : s.data.toList.length = s.size := by simp
  have HV : Hid (vB s.data.toList = true) := by unfold Hid vB lenB; rw [hsz, hall]; simp; try omega
  have HR : Hid (∀ xs : List Int, xs = List.replicate s.size 97 → vB (strOfNums xs).data.toList = true) := fun xs h => by rw [h]; exact rep_is s.size true (by unfold lenB; simp; omega)
  have HALL : Hid (allB s.data.toList = true) := hall
  have HSZ : Hid (s.data.toList.length = s.size) := hsz
  have t0 : ¬ (1048576 : Int) < (s.size : Int) := by omega
  have t1 : ¬ (4096 : Int) < (s.size : Int) := by omega
  have hmk := run_make_row' (P := Try.prog) 23 5 (.int .u8 0) 1 Try.underlying23 info5 rfl .i64 .i64 s.size (by omega) (by omega)
  clear hsz hall
  go_enter Try.func3, Try.ntmps3
  go_wp2_with (go_at_call 5; refine (zz5_any s h0 _).mono ?_; rintro e w' ⟨rfl, rfl⟩)
  go_loop [5, 6] (fun ev i => ∃ (k : Nat) (x : Bool), k ≤ s.size ∧ i = .int .i64 k ∧ ev = .bool x ∧ allB (s.data.toList.take k) = x) (fun _ i => s.size - (intOf i).toNat)
  case atStart => exact ⟨0, true, Nat.zero_le _, rfl, rfl, rfl⟩
  case round =>
    obtain ⟨k, x, hk, rfl, rfl, hx⟩ := hrel
    have HX : Hid (allB (s.data.toList.take k) = x) := hx
    clear hx
    by_cases hlt : k < s.size
    · have HT : Hid (allB (s.data.toList.take (k + 1)) = (x && nbI (s[k].toNat : Int))) := by unfold Hid; rw [take_snoc s k hlt, allB_snoc, HX.out]
      have b1 : (k : Int) < (s.size : Int) := by omega
      have b2 : (k : Int) + 1 ≤ (s.size : Int) := by omega
      have hsl : ∀ w : World, (Instr.slice 9 (.string s) (some (.int .i64 (k : Int))) (some (.int .i64 ((k : Int) + 1))) none).run Try.prog w = .ok (.string (s.extract k (k + 1))) w := fun w => cut_one s k hlt w
      by_cases hn : nbI (s[k].toNat : Int) = true
      · have HO : Hid (vB (s.extract k (k + 1)).data.toList = true) := by unfold Hid; rw [one_is s k hlt]; exact hn
        have HN : Hid (nbI (s[k].toNat : Int) = true) := hn
        clear hn
        go_wp2_with (go_at_call 6; refine (valid_eq true _ HO.out (by simp; omega) _).mono ?_; rintro e w' ⟨rfl, rfl⟩)
        go_round
        case rel => exact ⟨k + 1, x, hlt, by go_num, rfl, by rw [HT.out, HN.out]; simp⟩
        case measure => simp [intOf]; omega
      · have HO : Hid (vB (s.extract k (k + 1)).data.toList = false) := by unfold Hid; rw [one_is s k hlt]; simpa using hn
        have HN : Hid (nbI (s[k].toNat : Int) = false) := Bool.eq_false_iff.2 hn
        clear hn
        go_wp2_with (go_at_call 6; refine (valid_eq false _ HO.out (by simp; omega) _).mono ?_; rintro e w' ⟨rfl, rfl⟩)
        go_round
        case rel => exact ⟨k + 1, false, hlt, by go_num, rfl, by rw [HT.out, HN.out]; simp⟩
        case measure => simp [intOf]; omega
    · obtain rfl : x = true := by have h := HX.out; rw [List.take_of_length_le (by rw [HSZ.out]; omega), HALL.out] at h; exact h.symm
      go_wp2
      clear hmk
      go_loopw [8] (fun i wr => ∃ m : Nat, m ≤ s.size ∧ i = .int .i64 m ∧ Below w.heap.size w wr ∧ wr.rowIs w.heap.size 5 s.size (fun j => if j < m then .int .u8 97 else .int .u8 0)) (fun i _ => s.size - (intOf i).toNat)
      case atStart => exact ⟨0, Nat.zero_le _, rfl, (Below.refl _ _).alloc (Nat.le_refl _) _, (World.rowIs_made _ _ _ _).congr (fun i _ => by simp)⟩
      case round =>
        obtain ⟨m, hle, rfl, hbel, hrow⟩ := hrel
        by_cases hlt2 : m < s.size
        · have hold := hrow.cell hlt2
          have hfr := hrow.frozen m
          have b1 : (m : Int) < (s.size : Int) := by omega
          have HB : Hid (Below w.heap.size w wr) := hbel
          have HRow : Hid (wr.rowIs w.heap.size 5 s.size (fun j => if j < m then .int .u8 97 else .int .u8 0)) := hrow
          clear hbel hrow
          go_wp2
          go_roundw
          case rel => exact ⟨m + 1, hlt2, by go_num, HB.out.setCell (Nat.le_refl _) _, (HRow.out.set m _).congr (fun j hj => by
            by_cases e : j = m
            · subst e; simp
            · by_cases e2 : j < m
              · simp [e, e2, show j < m + 1 by omega]
              · simp [e, e2, show ¬ j < m + 1 by omega])⟩
          case measure => simp [intOf]; omega
        · have hcv := run_convert_bytes_arg (P := Try.prog) wr 23 5 Try.underlying23 Try.underlying5 w.heap.size 0 s.size s.size (List.replicate s.size 97) (by simp) (fun i hi => by
            have h := hrow.cell hi
            rw [Nat.zero_add, h]
            simp [hi, show i < m by omega]) 9 Try.underlying9
          have HRR := HR.out _ rfl
          obtain ⟨rep, hrep⟩ : ∃ r, strOfNums (List.replicate s.size 97) = r := ⟨_, rfl⟩
          have hrs : rep.size ≤ 4096 := by rw [← hrep, strOfNums_size]; simp; exact h0
          rw [hrep] at hcv HRR
          have HRQ : Hid (vB rep.data.toList = true) := HRR
          have HB : Hid (Below w.heap.size w wr) := hbel
          clear hrep HRR hbel hrow
          go_wp2_with (first | (go_at_call_of 6 (Value.string s); refine (valid_eq true s HV.out (by omega) _).mono ?_; rintro e w' ⟨rfl, rfl⟩) | (go_at_call_of 6 (Value.string rep); refine (valid_eq true rep HRQ.out (by omega) _).mono ?_; rintro e w' ⟨rfl, rfl⟩))
          go_ret
          exact ⟨rfl, HB.out⟩

set_option maxHeartbeats 4000000 in
theorem len_midf (s : ByteArray) (w : World) (h0 : s.size ≤ 4096) (hn : 1 ≤ s.size) (hn' : s.size ≤ 128) (hall : allB s.data.toList = false) :
    Calls Try.prog 3 #[.string s] w fun e w' => e = .returned (.bool true) ∧ Below w.heap.size w w' := by
  have hsz : s.data.toList.length = s.size := by simp
  have HV : Hid (vB s.data.toList = false) := by unfold Hid vB lenB; rw [hsz, hall]; simp; try omega
  have HR : Hid (∀ xs : List Int, xs = List.replicate s.size 97 → vB (strOfNums xs).data.toList = true) := fun xs h => by rw [h]; exact rep_is s.size true (by unfold lenB; simp; omega)
  have HALL : Hid (allB s.data.toList = false) := hall
  have HSZ : Hid (s.data.toList.length = s.size) := hsz
  have t0 : ¬ (1048576 : Int) < (s.size : Int) := by omega
  have t1 : ¬ (4096 : Int) < (s.size : Int) := by omega
  have hmk := run_make_row' (P := Try.prog) 23 5 (.int .u8 0) 1 Try.underlying23 info5 rfl .i64 .i64 s.size (by omega) (by omega)
  clear hsz hall
  go_enter Try.func3, Try.ntmps3
  go_wp2_with (go_at_call 5; refine (zz5_any s h0 _).mono ?_; rintro e w' ⟨rfl, rfl⟩)
  go_loop [5, 6] (fun ev i => ∃ (k : Nat) (x : Bool), k ≤ s.size ∧ i = .int .i64 k ∧ ev = .bool x ∧ allB (s.data.toList.take k) = x) (fun _ i => s.size - (intOf i).toNat)
  case atStart => exact ⟨0, true, Nat.zero_le _, rfl, rfl, rfl⟩
  case round =>
    obtain ⟨k, x, hk, rfl, rfl, hx⟩ := hrel
    have HX : Hid (allB (s.data.toList.take k) = x) := hx
    clear hx
    by_cases hlt : k < s.size
    · have HT : Hid (allB (s.data.toList.take (k + 1)) = (x && nbI (s[k].toNat : Int))) := by unfold Hid; rw [take_snoc s k hlt, allB_snoc, HX.out]
      have b1 : (k : Int) < (s.size : Int) := by omega
      have b2 : (k : Int) + 1 ≤ (s.size : Int) := by omega
      have hsl : ∀ w : World, (Instr.slice 9 (.string s) (some (.int .i64 (k : Int))) (some (.int .i64 ((k : Int) + 1))) none).run Try.prog w = .ok (.string (s.extract k (k + 1))) w := fun w => cut_one s k hlt w
      by_cases hn : nbI (s[k].toNat : Int) = true
      · have HO : Hid (vB (s.extract k (k + 1)).data.toList = true) := by unfold Hid; rw [one_is s k hlt]; exact hn
        have HN : Hid (nbI (s[k].toNat : Int) = true) := hn
        clear hn
        go_wp2_with (go_at_call 6; refine (valid_eq true _ HO.out (by simp; omega) _).mono ?_; rintro e w' ⟨rfl, rfl⟩)
        go_round
        case rel => exact ⟨k + 1, x, hlt, by go_num, rfl, by rw [HT.out, HN.out]; simp⟩
        case measure => simp [intOf]; omega
      · have HO : Hid (vB (s.extract k (k + 1)).data.toList = false) := by unfold Hid; rw [one_is s k hlt]; simpa using hn
        have HN : Hid (nbI (s[k].toNat : Int) = false) := Bool.eq_false_iff.2 hn
        clear hn
        go_wp2_with (go_at_call 6; refine (valid_eq false _ HO.out (by simp; omega) _).mono ?_; rintro e w' ⟨rfl, rfl⟩)
        go_round
        case rel => exact ⟨k + 1, false, hlt, by go_num, rfl, by rw [HT.out, HN.out]; simp⟩
        case measure => simp [intOf]; omega
    · obtain rfl : x = false := by have h := HX.out; rw [List.take_of_length_le (by rw [HSZ.out]; omega), HALL.out] at h; exact h.symm
      go_wp2
      clear hmk
      go_loopw [8] (fun i wr => ∃ m : Nat, m ≤ s.size ∧ i = .int .i64 m ∧ Below w.heap.size w wr ∧ wr.rowIs w.heap.size 5 s.size (fun j => if j < m then .int .u8 97 else .int .u8 0)) (fun i _ => s.size - (intOf i).toNat)
      case atStart => exact ⟨0, Nat.zero_le _, rfl, (Below.refl _ _).alloc (Nat.le_refl _) _, (World.rowIs_made _ _ _ _).congr (fun i _ => by simp)⟩
      case round =>
        obtain ⟨m, hle, rfl, hbel, hrow⟩ := hrel
        by_cases hlt2 : m < s.size
        · have hold := hrow.cell hlt2
          have hfr := hrow.frozen m
          have b1 : (m : Int) < (s.size : Int) := by omega
          have HB : Hid (Below w.heap.size w wr) := hbel
          have HRow : Hid (wr.rowIs w.heap.size 5 s.size (fun j => if j < m then .int .u8 97 else .int .u8 0)) := hrow
          clear hbel hrow
          go_wp2
          go_roundw
          case rel => exact ⟨m + 1, hlt2, by go_num, HB.out.setCell (Nat.le_refl _) _, (HRow.out.set m _).congr (fun j hj => by
            by_cases e : j = m
            · subst e; simp
            · by_cases e2 : j < m
              · simp [e, e2, show j < m + 1 by omega]
              · simp [e, e2, show ¬ j < m + 1 by omega])⟩
          case measure => simp [intOf]; omega
        · have hcv := run_convert_bytes_arg (P := Try.prog) wr 23 5 Try.underlying23 Try.underlying5 w.heap.size 0 s.size s.size (List.replicate s.size 97) (by simp) (fun i hi => by
            have h := hrow.cell hi
            rw [Nat.zero_add, h]
            simp [hi, show i < m by omega]) 9 Try.underlying9
          have HRR := HR.out _ rfl
          obtain ⟨rep, hrep⟩ : ∃ r, strOfNums (List.replicate s.size 97) = r := ⟨_, rfl⟩
          have hrs : rep.size ≤ 4096 := by rw [← hrep, strOfNums_size]; simp; exact h0
          rw [hrep] at hcv HRR
          have HRQ : Hid (vB rep.data.toList = true) := HRR
          have HB : Hid (Below w.heap.size w wr) := hbel
          clear hrep HRR hbel hrow
          go_wp2_with (first | (go_at_call_of 6 (Value.string s); refine (valid_eq false s HV.out (by omega) _).mono ?_; rintro e w' ⟨rfl, rfl⟩) | (go_at_call_of 6 (Value.string rep); refine (valid_eq true rep HRQ.out (by omega) _).mono ?_; rintro e w' ⟨rfl, rfl⟩))
          go_ret
          exact ⟨rfl, HB.out⟩

set_option maxHeartbeats 4000000 in
theorem len_bigt (s : ByteArray) (w : World) (h0 : s.size ≤ 4096) (hn : 128 < s.size) (hall : allB s.data.toList = true) :
    Calls Try.prog 3 #[.string s] w fun e w' => e = .returned (.bool true) ∧ Below w.heap.size w w' := by
  have hsz : s.data.toList.length = s.size := by simp
  have HV : Hid (vB s.data.toList = false) := by unfold Hid vB lenB; rw [hsz, hall]; simp; try omega
  have HR : Hid (∀ xs : List Int, xs = List.replicate s.size 97 → vB (strOfNums xs).data.toList = false) := fun xs h => by rw [h]; exact rep_is s.size false (by unfold lenB; simp; omega)
  have HALL : Hid (allB s.data.toList = true) := hall
  have HSZ : Hid (s.data.toList.length = s.size) := hsz
  have t0 : ¬ (1048576 : Int) < (s.size : Int) := by omega
  have t1 : ¬ (4096 : Int) < (s.size : Int) := by omega
  have hmk := run_make_row' (P := Try.prog) 23 5 (.int .u8 0) 1 Try.underlying23 info5 rfl .i64 .i64 s.size (by omega) (by omega)
  clear hsz hall
  go_enter Try.func3, Try.ntmps3
  go_wp2_with (go_at_call 5; refine (zz5_any s h0 _).mono ?_; rintro e w' ⟨rfl, rfl⟩)
  go_loop [5, 6] (fun ev i => ∃ (k : Nat) (x : Bool), k ≤ s.size ∧ i = .int .i64 k ∧ ev = .bool x ∧ allB (s.data.toList.take k) = x) (fun _ i => s.size - (intOf i).toNat)
  case atStart => exact ⟨0, true, Nat.zero_le _, rfl, rfl, rfl⟩
  case round =>
    obtain ⟨k, x, hk, rfl, rfl, hx⟩ := hrel
    have HX : Hid (allB (s.data.toList.take k) = x) := hx
    clear hx
    by_cases hlt : k < s.size
    · have HT : Hid (allB (s.data.toList.take (k + 1)) = (x && nbI (s[k].toNat : Int))) := by unfold Hid; rw [take_snoc s k hlt, allB_snoc, HX.out]
      have b1 : (k : Int) < (s.size : Int) := by omega
      have b2 : (k : Int) + 1 ≤ (s.size : Int) := by omega
      have hsl : ∀ w : World, (Instr.slice 9 (.string s) (some (.int .i64 (k : Int))) (some (.int .i64 ((k : Int) + 1))) none).run Try.prog w = .ok (.string (s.extract k (k + 1))) w := fun w => cut_one s k hlt w
      by_cases hn : nbI (s[k].toNat : Int) = true
      · have HO : Hid (vB (s.extract k (k + 1)).data.toList = true) := by unfold Hid; rw [one_is s k hlt]; exact hn
        have HN : Hid (nbI (s[k].toNat : Int) = true) := hn
        clear hn
        go_wp2_with (go_at_call 6; refine (valid_eq true _ HO.out (by simp; omega) _).mono ?_; rintro e w' ⟨rfl, rfl⟩)
        go_round
        case rel => exact ⟨k + 1, x, hlt, by go_num, rfl, by rw [HT.out, HN.out]; simp⟩
        case measure => simp [intOf]; omega
      · have HO : Hid (vB (s.extract k (k + 1)).data.toList = false) := by unfold Hid; rw [one_is s k hlt]; simpa using hn
        have HN : Hid (nbI (s[k].toNat : Int) = false) := Bool.eq_false_iff.2 hn
        clear hn
        go_wp2_with (go_at_call 6; refine (valid_eq false _ HO.out (by simp; omega) _).mono ?_; rintro e w' ⟨rfl, rfl⟩)
        go_round
        case rel => exact ⟨k + 1, false, hlt, by go_num, rfl, by rw [HT.out, HN.out]; simp⟩
        case measure => simp [intOf]; omega
    · obtain rfl : x = true := by have h := HX.out; rw [List.take_of_length_le (by rw [HSZ.out]; omega), HALL.out] at h; exact h.symm
      go_wp2
      clear hmk
      go_loopw [8] (fun i wr => ∃ m : Nat, m ≤ s.size ∧ i = .int .i64 m ∧ Below w.heap.size w wr ∧ wr.rowIs w.heap.size 5 s.size (fun j => if j < m then .int .u8 97 else .int .u8 0)) (fun i _ => s.size - (intOf i).toNat)
      case atStart => exact ⟨0, Nat.zero_le _, rfl, (Below.refl _ _).alloc (Nat.le_refl _) _, (World.rowIs_made _ _ _ _).congr (fun i _ => by simp)⟩
      case round =>
        obtain ⟨m, hle, rfl, hbel, hrow⟩ := hrel
        by_cases hlt2 : m < s.size
        · have hold := hrow.cell hlt2
          have hfr := hrow.frozen m
          have b1 : (m : Int) < (s.size : Int) := by omega
          have HB : Hid (Below w.heap.size w wr) := hbel
          have HRow : Hid (wr.rowIs w.heap.size 5 s.size (fun j => if j < m then .int .u8 97 else .int .u8 0)) := hrow
          clear hbel hrow
          go_wp2
          go_roundw
          case rel => exact ⟨m + 1, hlt2, by go_num, HB.out.setCell (Nat.le_refl _) _, (HRow.out.set m _).congr (fun j hj => by
            by_cases e : j = m
            · subst e; simp
            · by_cases e2 : j < m
              · simp [e, e2, show j < m + 1 by omega]
              · simp [e, e2, show ¬ j < m + 1 by omega])⟩
          case measure => simp [intOf]; omega
        · have hcv := run_convert_bytes_arg (P := Try.prog) wr 23 5 Try.underlying23 Try.underlying5 w.heap.size 0 s.size s.size (List.replicate s.size 97) (by simp) (fun i hi => by
            have h := hrow.cell hi
            rw [Nat.zero_add, h]
            simp [hi, show i < m by omega]) 9 Try.underlying9
          have HRR := HR.out _ rfl
          obtain ⟨rep, hrep⟩ : ∃ r, strOfNums (List.replicate s.size 97) = r := ⟨_, rfl⟩
          have hrs : rep.size ≤ 4096 := by rw [← hrep, strOfNums_size]; simp; exact h0
          rw [hrep] at hcv HRR
          have HRQ : Hid (vB rep.data.toList = false) := HRR
          have HB : Hid (Below w.heap.size w wr) := hbel
          clear hrep HRR hbel hrow
          go_wp2_with (first | (go_at_call_of 6 (Value.string s); refine (valid_eq false s HV.out (by omega) _).mono ?_; rintro e w' ⟨rfl, rfl⟩) | (go_at_call_of 6 (Value.string rep); refine (valid_eq false rep HRQ.out (by omega) _).mono ?_; rintro e w' ⟨rfl, rfl⟩))
          go_ret
          exact ⟨rfl, HB.out⟩

set_option maxHeartbeats 4000000 in
theorem len_bigf (s : ByteArray) (w : World) (h0 : s.size ≤ 4096) (hn : 128 < s.size) (hall : allB s.data.toList = false) :
    Calls Try.prog 3 #[.string s] w fun e w' => e = .returned (.bool true) ∧ Below w.heap.size w w' := by
  have hsz : s.data.toList.length = s.size := by simp
  have HV : Hid (vB s.data.toList = false) := by unfold Hid vB lenB; rw [hsz, hall]; simp; try omega
  have HR : Hid (∀ xs : List Int, xs = List.replicate s.size 97 → vB (strOfNums xs).data.toList = false) := fun xs h => by rw [h]; exact rep_is s.size false (by unfold lenB; simp; omega)
  have HALL : Hid (allB s.data.toList = false) := hall
  have HSZ : Hid (s.data.toList.length = s.size) := hsz
  have t0 : ¬ (1048576 : Int) < (s.size : Int) := by omega
  have t1 : ¬ (4096 : Int) < (s.size : Int) := by omega
  have hmk := run_make_row' (P := Try.prog) 23 5 (.int .u8 0) 1 Try.underlying23 info5 rfl .i64 .i64 s.size (by omega) (by omega)
  clear hsz hall
  go_enter Try.func3, Try.ntmps3
  go_wp2_with (go_at_call 5; refine (zz5_any s h0 _).mono ?_; rintro e w' ⟨rfl, rfl⟩)
  go_loop [5, 6] (fun ev i => ∃ (k : Nat) (x : Bool), k ≤ s.size ∧ i = .int .i64 k ∧ ev = .bool x ∧ allB (s.data.toList.take k) = x) (fun _ i => s.size - (intOf i).toNat)
  case atStart => exact ⟨0, true, Nat.zero_le _, rfl, rfl, rfl⟩
  case round =>
    obtain ⟨k, x, hk, rfl, rfl, hx⟩ := hrel
    have HX : Hid (allB (s.data.toList.take k) = x) := hx
    clear hx
    by_cases hlt : k < s.size
    · have HT : Hid (allB (s.data.toList.take (k + 1)) = (x && nbI (s[k].toNat : Int))) := by unfold Hid; rw [take_snoc s k hlt, allB_snoc, HX.out]
      have b1 : (k : Int) < (s.size : Int) := by omega
      have b2 : (k : Int) + 1 ≤ (s.size : Int) := by omega
      have hsl : ∀ w : World, (Instr.slice 9 (.string s) (some (.int .i64 (k : Int))) (some (.int .i64 ((k : Int) + 1))) none).run Try.prog w = .ok (.string (s.extract k (k + 1))) w := fun w => cut_one s k hlt w
      by_cases hn : nbI (s[k].toNat : Int) = true
      · have HO : Hid (vB (s.extract k (k + 1)).data.toList = true) := by unfold Hid; rw [one_is s k hlt]; exact hn
        have HN : Hid (nbI (s[k].toNat : Int) = true) := hn
        clear hn
        go_wp2_with (go_at_call 6; refine (valid_eq true _ HO.out (by simp; omega) _).mono ?_; rintro e w' ⟨rfl, rfl⟩)
        go_round
        case rel => exact ⟨k + 1, x, hlt, by go_num, rfl, by rw [HT.out, HN.out]; simp⟩
        case measure => simp [intOf]; omega
      · have HO : Hid (vB (s.extract k (k + 1)).data.toList = false) := by unfold Hid; rw [one_is s k hlt]; simpa using hn
        have HN : Hid (nbI (s[k].toNat : Int) = false) := Bool.eq_false_iff.2 hn
        clear hn
        go_wp2_with (go_at_call 6; refine (valid_eq false _ HO.out (by simp; omega) _).mono ?_; rintro e w' ⟨rfl, rfl⟩)
        go_round
        case rel => exact ⟨k + 1, false, hlt, by go_num, rfl, by rw [HT.out, HN.out]; simp⟩
        case measure => simp [intOf]; omega
    · obtain rfl : x = false := by have h := HX.out; rw [List.take_of_length_le (by rw [HSZ.out]; omega), HALL.out] at h; exact h.symm
      go_wp2
      clear hmk
      go_loopw [8] (fun i wr => ∃ m : Nat, m ≤ s.size ∧ i = .int .i64 m ∧ Below w.heap.size w wr ∧ wr.rowIs w.heap.size 5 s.size (fun j => if j < m then .int .u8 97 else .int .u8 0)) (fun i _ => s.size - (intOf i).toNat)
      case atStart => exact ⟨0, Nat.zero_le _, rfl, (Below.refl _ _).alloc (Nat.le_refl _) _, (World.rowIs_made _ _ _ _).congr (fun i _ => by simp)⟩
      case round =>
        obtain ⟨m, hle, rfl, hbel, hrow⟩ := hrel
        by_cases hlt2 : m < s.size
        · have hold := hrow.cell hlt2
          have hfr := hrow.frozen m
          have b1 : (m : Int) < (s.size : Int) := by omega
          have HB : Hid (Below w.heap.size w wr) := hbel
          have HRow : Hid (wr.rowIs w.heap.size 5 s.size (fun j => if j < m then .int .u8 97 else .int .u8 0)) := hrow
          clear hbel hrow
          go_wp2
          go_roundw
          case rel => exact ⟨m + 1, hlt2, by go_num, HB.out.setCell (Nat.le_refl _) _, (HRow.out.set m _).congr (fun j hj => by
            by_cases e : j = m
            · subst e; simp
            · by_cases e2 : j < m
              · simp [e, e2, show j < m + 1 by omega]
              · simp [e, e2, show ¬ j < m + 1 by omega])⟩
          case measure => simp [intOf]; omega
        · have hcv := run_convert_bytes_arg (P := Try.prog) wr 23 5 Try.underlying23 Try.underlying5 w.heap.size 0 s.size s.size (List.replicate s.size 97) (by simp) (fun i hi => by
            have h := hrow.cell hi
            rw [Nat.zero_add, h]
            simp [hi, show i < m by omega]) 9 Try.underlying9
          have HRR := HR.out _ rfl
          obtain ⟨rep, hrep⟩ : ∃ r, strOfNums (List.replicate s.size 97) = r := ⟨_, rfl⟩
          have hrs : rep.size ≤ 4096 := by rw [← hrep, strOfNums_size]; simp; exact h0
          rw [hrep] at hcv HRR
          have HRQ : Hid (vB rep.data.toList = false) := HRR
          have HB : Hid (Below w.heap.size w wr) := hbel
          clear hrep HRR hbel hrow
          go_wp2_with (first | (go_at_call_of 6 (Value.string s); refine (valid_eq false s HV.out (by omega) _).mono ?_; rintro e w' ⟨rfl, rfl⟩) | (go_at_call_of 6 (Value.string rep); refine (valid_eq false rep HRQ.out (by omega) _).mono ?_; rintro e w' ⟨rfl, rfl⟩))
          go_ret
          exact ⟨rfl, HB.out⟩

set_option maxHeartbeats 2000000 in
theorem len_zero (w : World) : Calls Try.prog 3 #[.string ⟨#[]⟩] w fun e w' => e = .returned (.bool true) ∧ Below w.heap.size w w' := by
  have hmk : ∀ w : World, (Instr.makeSlice 23 (.int .i64 0) (.int .i64 0)).run Try.prog w = .ok (.slice (some ⟨w.heap.size, 0, none⟩) 0 0) (w.alloc (.cells (madeCells #[.int .u8 0] 0) 5)) := fun w => run_make_row' (P := Try.prog) 23 5 (.int .u8 0) 1 Try.underlying23 info5 rfl .i64 .i64 0 (by omega) (by omega) w
  have hcv := fun (w : World) (b : Nat) => run_convert_bytes_arg (P := Try.prog) w 23 5 Try.underlying23 Try.underlying5 b 0 0 0 [] rfl (fun i hi => absurd hi (Nat.not_lt_zero _)) 9 Try.underlying9
  go_enter Try.func3, Try.ntmps3
  go_wp2_with (go_at_call 5; refine (zz5_any ⟨#[]⟩ (by show (0 : Nat) ≤ 4096; omega) _).mono ?_; rintro e w' ⟨rfl, rfl⟩)
  go_loop [5, 6] (fun ev i => i = .int .i64 0 ∧ ev = .bool true) (fun _ _ => 0)
  case atStart => exact ⟨rfl, rfl⟩
  case round =>
    obtain ⟨rfl, rfl⟩ := hrel
    go_wp2
    clear hmk
    go_loop [8] (fun i => i = .int .i64 0) (fun _ => 0)
    case atStart => exact rfl
    case round =>
      obtain rfl := hrel
      go_wp2_with (first | (go_at_call_of 6 (Value.string ⟨#[]⟩); refine (valid_eq false ⟨#[]⟩ rfl (by show (0 : Nat) ≤ 1048576; omega) _).mono ?_; rintro e w' ⟨rfl, rfl⟩) | (go_at_call_of 6 (Value.string (strOfNums [])); refine (valid_eq false (strOfNums []) rfl (by show (0 : Nat) ≤ 1048576; omega) _).mono ?_; rintro e w' ⟨rfl, rfl⟩))
      go_ret
      exact ⟨rfl, (Below.refl _ _).alloc (Nat.le_refl _) _⟩

set_option maxHeartbeats 1000000 in
theorem len_out (s : ByteArray) (w : World) (h : 4096 < s.size) (hs : s.size ≤ 9223372036854775807) : Calls Try.prog 3 #[.string s] w fun e w' => e = .returned (.bool true) ∧ Below w.heap.size w w' := by
  have t1 : (4096 : Int) < (s.size : Int) := by omega
  go_enter Try.func3, Try.ntmps3
  go_wp2_with fail
  refine (zz5_big s _).mono ?_
  rintro e w' ⟨r, rfl, rfl⟩
  cases r
  all_goals
    go_wp2
    go_ret
    exact ⟨rfl, Below.refl _ _⟩

theorem len_any (s : ByteArray) (w : World) (hs : s.size ≤ 9223372036854775807) : Calls Try.prog 3 #[.string s] w fun e w' => e = .returned (.bool true) ∧ Below w.heap.size w w' := by
  by_cases h : 4096 < s.size
  · exact len_out s w h hs
  by_cases h0 : s.size = 0
  · have e : s = ⟨#[]⟩ := by
      obtain ⟨d⟩ := s
      have : d = #[] := Array.eq_empty_of_size_eq_zero h0
      rw [this]
    rw [e]
    exact len_zero w
  by_cases h1 : 128 < s.size
  · cases ha : allB s.data.toList
    · exact len_bigf s w (by omega) h1 ha
    · exact len_bigt s w (by omega) h1 ha
  · cases ha : allB s.data.toList
    · exact len_midf s w (by omega) (by omega) (by omega) ha
    · exact len_midt s w (by omega) (by omega) (by omega) ha

end Go.Proofs.Qxb6626434a.Len
