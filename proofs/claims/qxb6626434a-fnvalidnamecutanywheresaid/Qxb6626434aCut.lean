import Derived.Test.Qxb6626434aDec
namespace Go.Proofs.Qxb6626434a.Cut
open Go.RowKit Name
set_option linter.unusedVariables false

theorem zz7_any (s : ByteArray) (k : Int) (h : s.size ≤ 4096) (w : World) : Calls Try.prog 7 #[.string s, .int .i64 k] w fun e w' => e = .returned (.bool true) ∧ w = w' := by
  have t0 : ¬ (1048576 : Int) < (s.size : Int) := by omega
  go_enter Try.func7, Try.ntmps7
  go_wp2
  go_ret
  exact ⟨rfl, rfl⟩

theorem zz7_big (s : ByteArray) (k : Int) (w : World) : Calls Try.prog 7 #[.string s, .int .i64 k] w (Len.Some1 w) := by
  by_cases t0 : (1048576 : Int) < (s.size : Int)
  · go_enter Try.func7, Try.ntmps7
    go_wp2
    go_ret
    exact ⟨_, rfl, rfl⟩
  · go_enter Try.func7, Try.ntmps7
    go_wp2
    go_ret
    exact ⟨_, rfl, rfl⟩

set_option maxHeartbeats 2000000 in
theorem cz_m_t (s : ByteArray) (w : World) (h0 : s.size ≤ 4096)  (hn : 1 ≤ s.size) (hn' : s.size ≤ 128) (hR : vB (s.extract 0 s.size).data.toList = true) (hV : vB s.data.toList = true) :
    Calls Try.prog 4 #[.string s, .int .i64 0] w fun e w' => e = .returned (.bool true) ∧ Below w.heap.size w w' := by
  have HV : Hid (vB s.data.toList = true) := hV
  clear hV
  have HR : Hid (vB (s.extract 0 s.size).data.toList = true) := hR
  clear hR
  have t1 : ¬ (4096 : Int) < (s.size : Int) := by omega
  have k1 : ((0 : Int) == (s.size : Int)) = false := by simp; omega
  have t2 : (1 : Int) ≤ (s.size : Int) := by omega
  have t3 : (s.size : Int) ≤ 128 := by omega
  go_enter Try.func4, Try.ntmps4
  go_wp2_with fail
  refine (zz7_any s _ h0 _).mono ?_
  rintro e w' ⟨rfl, rfl⟩
  go_wp2_with (first | (go_at_call_of 6 (Value.string s); refine (Len.valid_eq true s HV.out (by omega) _).mono ?_; rintro e w' ⟨rfl, rfl⟩) | (go_at_call_of 6 (Value.string (s.extract 0 s.size)); refine (Len.valid_eq true _ HR.out (by simp; omega) _).mono ?_; rintro e w' ⟨rfl, rfl⟩) | (go_at_call 8; refine (Dec.dec_zero _).mono ?_; rintro e w1 ⟨ds, rfl, hd, hdz, hb⟩))
  have HD : Hid (vB ds.data.toList = true ∧ Below w.heap.size w w1) := ⟨hd, hb⟩
  clear hd hb
  go_wp2_with (go_at_call 6; refine (Len.valid_eq true ds HD.out.1 (by omega) _).mono ?_; rintro e w' ⟨rfl, rfl⟩)
  go_ret
  exact ⟨rfl, HD.out.2⟩

set_option maxHeartbeats 2000000 in
theorem cz_m_f (s : ByteArray) (w : World) (h0 : s.size ≤ 4096)  (hn : 1 ≤ s.size) (hn' : s.size ≤ 128) (hR : vB (s.extract 0 s.size).data.toList = false) (hV : vB s.data.toList = false) :
    Calls Try.prog 4 #[.string s, .int .i64 0] w fun e w' => e = .returned (.bool true) ∧ Below w.heap.size w w' := by
  have HV : Hid (vB s.data.toList = false) := hV
  clear hV
  have HR : Hid (vB (s.extract 0 s.size).data.toList = false) := hR
  clear hR
  have t1 : ¬ (4096 : Int) < (s.size : Int) := by omega
  have k1 : ((0 : Int) == (s.size : Int)) = false := by simp; omega
  have t2 : (1 : Int) ≤ (s.size : Int) := by omega
  have t3 : (s.size : Int) ≤ 128 := by omega
  go_enter Try.func4, Try.ntmps4
  go_wp2_with fail
  refine (zz7_any s _ h0 _).mono ?_
  rintro e w' ⟨rfl, rfl⟩
  go_wp2_with (first | (go_at_call_of 6 (Value.string s); refine (Len.valid_eq false s HV.out (by omega) _).mono ?_; rintro e w' ⟨rfl, rfl⟩) | (go_at_call_of 6 (Value.string (s.extract 0 s.size)); refine (Len.valid_eq false _ HR.out (by simp; omega) _).mono ?_; rintro e w' ⟨rfl, rfl⟩) | (go_at_call 8; refine (Dec.dec_zero _).mono ?_; rintro e w1 ⟨ds, rfl, hd, hdz, hb⟩))
  have HD : Hid (vB ds.data.toList = true ∧ Below w.heap.size w w1) := ⟨hd, hb⟩
  clear hd hb
  go_wp2_with (go_at_call 6; refine (Len.valid_eq true ds HD.out.1 (by omega) _).mono ?_; rintro e w' ⟨rfl, rfl⟩)
  go_ret
  exact ⟨rfl, HD.out.2⟩

set_option maxHeartbeats 2000000 in
theorem cf_m_t (s : ByteArray) (k : Nat) (w : World) (h0 : s.size ≤ 4096) (hk : k = s.size) (hn : 1 ≤ s.size) (hn' : s.size ≤ 128) (hL : vB (s.extract 0 k).data.toList = true) (hV : vB s.data.toList = true) :
    Calls Try.prog 4 #[.string s, .int .i64 k] w fun e w' => e = .returned (.bool true) ∧ Below w.heap.size w w' := by
  have HV : Hid (vB s.data.toList = true) := hV
  clear hV
  have HL : Hid (vB (s.extract 0 k).data.toList = true) := hL
  clear hL
  have t1 : ¬ (4096 : Int) < (s.size : Int) := by omega
  have k0 : ((k : Int) == 0) = false := by simp; omega
  have k1 : ((k : Int) == (s.size : Int)) = true := by simp [hk]
  have HK : Hid (k = s.size) := hk
  have k2 : (k : Int) ≤ (s.size : Int) := by omega
  have k3 : 1 ≤ k := by omega
  have k4 : k ≤ 4096 := by omega
  clear hk
  have t2 : (1 : Int) ≤ (s.size : Int) := by omega
  have t3 : (s.size : Int) ≤ 128 := by omega
  go_enter Try.func4, Try.ntmps4
  go_wp2_with fail
  refine (zz7_any s _ h0 _).mono ?_
  rintro e w' ⟨rfl, rfl⟩
  go_wp2_with (first | (go_at_call_of 6 (Value.string s); refine (Len.valid_eq true s HV.out (by omega) _).mono ?_; rintro e w' ⟨rfl, rfl⟩) | (go_at_call_of 6 (Value.string (s.extract 0 k)); refine (Len.valid_eq true _ HL.out (by simp; omega) _).mono ?_; rintro e w' ⟨rfl, rfl⟩) | (go_at_call 8; refine (Dec.dec_pos k (by omega) (by omega) _).mono ?_; rintro e w1 ⟨ds, rfl, hd, hdz, hb⟩))
  have HD : Hid (vB ds.data.toList = true ∧ Below w.heap.size w w1) := ⟨hd, hb⟩
  clear hd hb
  go_wp2_with (go_at_call 6; refine (Len.valid_eq true ds HD.out.1 (by omega) _).mono ?_; rintro e w' ⟨rfl, rfl⟩)
  go_ret
  exact ⟨rfl, HD.out.2⟩

set_option maxHeartbeats 2000000 in
theorem cf_m_f (s : ByteArray) (k : Nat) (w : World) (h0 : s.size ≤ 4096) (hk : k = s.size) (hn : 1 ≤ s.size) (hn' : s.size ≤ 128) (hL : vB (s.extract 0 k).data.toList = false) (hV : vB s.data.toList = false) :
    Calls Try.prog 4 #[.string s, .int .i64 k] w fun e w' => e = .returned (.bool true) ∧ Below w.heap.size w w' := by
  have HV : Hid (vB s.data.toList = false) := hV
  clear hV
  have HL : Hid (vB (s.extract 0 k).data.toList = false) := hL
  clear hL
  have t1 : ¬ (4096 : Int) < (s.size : Int) := by omega
  have k0 : ((k : Int) == 0) = false := by simp; omega
  have k1 : ((k : Int) == (s.size : Int)) = true := by simp [hk]
  have HK : Hid (k = s.size) := hk
  have k2 : (k : Int) ≤ (s.size : Int) := by omega
  have k3 : 1 ≤ k := by omega
  have k4 : k ≤ 4096 := by omega
  clear hk
  have t2 : (1 : Int) ≤ (s.size : Int) := by omega
  have t3 : (s.size : Int) ≤ 128 := by omega
  go_enter Try.func4, Try.ntmps4
  go_wp2_with fail
  refine (zz7_any s _ h0 _).mono ?_
  rintro e w' ⟨rfl, rfl⟩
  go_wp2_with (first | (go_at_call_of 6 (Value.string s); refine (Len.valid_eq false s HV.out (by omega) _).mono ?_; rintro e w' ⟨rfl, rfl⟩) | (go_at_call_of 6 (Value.string (s.extract 0 k)); refine (Len.valid_eq false _ HL.out (by simp; omega) _).mono ?_; rintro e w' ⟨rfl, rfl⟩) | (go_at_call 8; refine (Dec.dec_pos k (by omega) (by omega) _).mono ?_; rintro e w1 ⟨ds, rfl, hd, hdz, hb⟩))
  have HD : Hid (vB ds.data.toList = true ∧ Below w.heap.size w w1) := ⟨hd, hb⟩
  clear hd hb
  go_wp2_with (go_at_call 6; refine (Len.valid_eq true ds HD.out.1 (by omega) _).mono ?_; rintro e w' ⟨rfl, rfl⟩)
  go_ret
  exact ⟨rfl, HD.out.2⟩

set_option maxHeartbeats 2000000 in
theorem cm_m_tt (s : ByteArray) (k : Nat) (w : World) (h0 : s.size ≤ 4096) (hk : 0 < k) (hk' : k < s.size) (hn : 1 ≤ s.size) (hn' : s.size ≤ 128) (hL : vB (s.extract 0 k).data.toList = true) (hR : vB (s.extract k s.size).data.toList = true) (hV : vB s.data.toList = true) :
    Calls Try.prog 4 #[.string s, .int .i64 k] w fun e w' => e = .returned (.bool true) ∧ Below w.heap.size w w' := by
  have HV : Hid (vB s.data.toList = true) := hV
  clear hV
  have HL : Hid (vB (s.extract 0 k).data.toList = true) := hL
  clear hL
  have HR : Hid (vB (s.extract k s.size).data.toList = true) := hR
  clear hR
  have t1 : ¬ (4096 : Int) < (s.size : Int) := by omega
  have k0 : ((k : Int) == 0) = false := by simp; omega
  have k1 : ((k : Int) == (s.size : Int)) = false := by simp; omega
  have k2 : (k : Int) ≤ (s.size : Int) := by omega
  have t2 : (1 : Int) ≤ (s.size : Int) := by omega
  have t3 : (s.size : Int) ≤ 128 := by omega
  go_enter Try.func4, Try.ntmps4
  go_wp2_with fail
  refine (zz7_any s _ h0 _).mono ?_
  rintro e w' ⟨rfl, rfl⟩
  go_wp2_with (first | (go_at_call_of 6 (Value.string s); refine (Len.valid_eq true s HV.out (by omega) _).mono ?_; rintro e w' ⟨rfl, rfl⟩) | (go_at_call_of 6 (Value.string (s.extract 0 k)); refine (Len.valid_eq true _ HL.out (by simp; omega) _).mono ?_; rintro e w' ⟨rfl, rfl⟩) | (go_at_call_of 6 (Value.string (s.extract k s.size)); refine (Len.valid_eq true _ HR.out (by simp; omega) _).mono ?_; rintro e w' ⟨rfl, rfl⟩) | (go_at_call 8; refine (Dec.dec_pos k (by omega) (by omega) _).mono ?_; rintro e w1 ⟨ds, rfl, hd, hdz, hb⟩))
  have HD : Hid (vB ds.data.toList = true ∧ Below w.heap.size w w1) := ⟨hd, hb⟩
  clear hd hb
  go_wp2_with (go_at_call 6; refine (Len.valid_eq true ds HD.out.1 (by omega) _).mono ?_; rintro e w' ⟨rfl, rfl⟩)
  go_ret
  exact ⟨rfl, HD.out.2⟩

set_option maxHeartbeats 2000000 in
theorem cm_m_tf (s : ByteArray) (k : Nat) (w : World) (h0 : s.size ≤ 4096) (hk : 0 < k) (hk' : k < s.size) (hn : 1 ≤ s.size) (hn' : s.size ≤ 128) (hL : vB (s.extract 0 k).data.toList = true) (hR : vB (s.extract k s.size).data.toList = false) (hV : vB s.data.toList = false) :
    Calls Try.prog 4 #[.string s, .int .i64 k] w fun e w' => e = .returned (.bool true) ∧ Below w.heap.size w w' := by
  have HV : Hid (vB s.data.toList = false) := hV
  clear hV
  have HL : Hid (vB (s.extract 0 k).data.toList = true) := hL
  clear hL
  have HR : Hid (vB (s.extract k s.size).data.toList = false) := hR
  clear hR
  have t1 : ¬ (4096 : Int) < (s.size : Int) := by omega
  have k0 : ((k : Int) == 0) = false := by simp; omega
  have k1 : ((k : Int) == (s.size : Int)) = false := by simp; omega
  have k2 : (k : Int) ≤ (s.size : Int) := by omega
  have t2 : (1 : Int) ≤ (s.size : Int) := by omega
  have t3 : (s.size : Int) ≤ 128 := by omega
  go_enter Try.func4, Try.ntmps4
  go_wp2_with fail
  refine (zz7_any s _ h0 _).mono ?_
  rintro e w' ⟨rfl, rfl⟩
  go_wp2_with (first | (go_at_call_of 6 (Value.string s); refine (Len.valid_eq false s HV.out (by omega) _).mono ?_; rintro e w' ⟨rfl, rfl⟩) | (go_at_call_of 6 (Value.string (s.extract 0 k)); refine (Len.valid_eq true _ HL.out (by simp; omega) _).mono ?_; rintro e w' ⟨rfl, rfl⟩) | (go_at_call_of 6 (Value.string (s.extract k s.size)); refine (Len.valid_eq false _ HR.out (by simp; omega) _).mono ?_; rintro e w' ⟨rfl, rfl⟩) | (go_at_call 8; refine (Dec.dec_pos k (by omega) (by omega) _).mono ?_; rintro e w1 ⟨ds, rfl, hd, hdz, hb⟩))
  have HD : Hid (vB ds.data.toList = true ∧ Below w.heap.size w w1) := ⟨hd, hb⟩
  clear hd hb
  go_wp2_with (go_at_call 6; refine (Len.valid_eq true ds HD.out.1 (by omega) _).mono ?_; rintro e w' ⟨rfl, rfl⟩)
  go_ret
  exact ⟨rfl, HD.out.2⟩

set_option maxHeartbeats 2000000 in
theorem cm_m_ft (s : ByteArray) (k : Nat) (w : World) (h0 : s.size ≤ 4096) (hk : 0 < k) (hk' : k < s.size) (hn : 1 ≤ s.size) (hn' : s.size ≤ 128) (hL : vB (s.extract 0 k).data.toList = false) (hR : vB (s.extract k s.size).data.toList = true) (hV : vB s.data.toList = false) :
    Calls Try.prog 4 #[.string s, .int .i64 k] w fun e w' => e = .returned (.bool true) ∧ Below w.heap.size w w' := by
  have HV : Hid (vB s.data.toList = false) := hV
  clear hV
  have HL : Hid (vB (s.extract 0 k).data.toList = false) := hL
  clear hL
  have HR : Hid (vB (s.extract k s.size).data.toList = true) := hR
  clear hR
  have t1 : ¬ (4096 : Int) < (s.size : Int) := by omega
  have k0 : ((k : Int) == 0) = false := by simp; omega
  have k1 : ((k : Int) == (s.size : Int)) = false := by simp; omega
  have k2 : (k : Int) ≤ (s.size : Int) := by omega
  have t2 : (1 : Int) ≤ (s.size : Int) := by omega
  have t3 : (s.size : Int) ≤ 128 := by omega
  go_enter Try.func4, Try.ntmps4
  go_wp2_with fail
  refine (zz7_any s _ h0 _).mono ?_
  rintro e w' ⟨rfl, rfl⟩
  go_wp2_with (first | (go_at_call_of 6 (Value.string s); refine (Len.valid_eq false s HV.out (by omega) _).mono ?_; rintro e w' ⟨rfl, rfl⟩) | (go_at_call_of 6 (Value.string (s.extract 0 k)); refine (Len.valid_eq false _ HL.out (by simp; omega) _).mono ?_; rintro e w' ⟨rfl, rfl⟩) | (go_at_call_of 6 (Value.string (s.extract k s.size)); refine (Len.valid_eq true _ HR.out (by simp; omega) _).mono ?_; rintro e w' ⟨rfl, rfl⟩) | (go_at_call 8; refine (Dec.dec_pos k (by omega) (by omega) _).mono ?_; rintro e w1 ⟨ds, rfl, hd, hdz, hb⟩))
  have HD : Hid (vB ds.data.toList = true ∧ Below w.heap.size w w1) := ⟨hd, hb⟩
  clear hd hb
  go_wp2_with (go_at_call 6; refine (Len.valid_eq true ds HD.out.1 (by omega) _).mono ?_; rintro e w' ⟨rfl, rfl⟩)
  go_ret
  exact ⟨rfl, HD.out.2⟩

set_option maxHeartbeats 2000000 in
theorem cm_m_ff (s : ByteArray) (k : Nat) (w : World) (h0 : s.size ≤ 4096) (hk : 0 < k) (hk' : k < s.size) (hn : 1 ≤ s.size) (hn' : s.size ≤ 128) (hL : vB (s.extract 0 k).data.toList = false) (hR : vB (s.extract k s.size).data.toList = false) (hV : vB s.data.toList = false) :
    Calls Try.prog 4 #[.string s, .int .i64 k] w fun e w' => e = .returned (.bool true) ∧ Below w.heap.size w w' := by
  have HV : Hid (vB s.data.toList = false) := hV
  clear hV
  have HL : Hid (vB (s.extract 0 k).data.toList = false) := hL
  clear hL
  have HR : Hid (vB (s.extract k s.size).data.toList = false) := hR
  clear hR
  have t1 : ¬ (4096 : Int) < (s.size : Int) := by omega
  have k0 : ((k : Int) == 0) = false := by simp; omega
  have k1 : ((k : Int) == (s.size : Int)) = false := by simp; omega
  have k2 : (k : Int) ≤ (s.size : Int) := by omega
  have t2 : (1 : Int) ≤ (s.size : Int) := by omega
  have t3 : (s.size : Int) ≤ 128 := by omega
  go_enter Try.func4, Try.ntmps4
  go_wp2_with fail
  refine (zz7_any s _ h0 _).mono ?_
  rintro e w' ⟨rfl, rfl⟩
  go_wp2_with (first | (go_at_call_of 6 (Value.string s); refine (Len.valid_eq false s HV.out (by omega) _).mono ?_; rintro e w' ⟨rfl, rfl⟩) | (go_at_call_of 6 (Value.string (s.extract 0 k)); refine (Len.valid_eq false _ HL.out (by simp; omega) _).mono ?_; rintro e w' ⟨rfl, rfl⟩) | (go_at_call_of 6 (Value.string (s.extract k s.size)); refine (Len.valid_eq false _ HR.out (by simp; omega) _).mono ?_; rintro e w' ⟨rfl, rfl⟩) | (go_at_call 8; refine (Dec.dec_pos k (by omega) (by omega) _).mono ?_; rintro e w1 ⟨ds, rfl, hd, hdz, hb⟩))
  have HD : Hid (vB ds.data.toList = true ∧ Below w.heap.size w w1) := ⟨hd, hb⟩
  clear hd hb
  go_wp2_with (go_at_call 6; refine (Len.valid_eq true ds HD.out.1 (by omega) _).mono ?_; rintro e w' ⟨rfl, rfl⟩)
  go_ret
  exact ⟨rfl, HD.out.2⟩

set_option maxHeartbeats 2000000 in
theorem cz_b_f (s : ByteArray) (w : World) (h0 : s.size ≤ 4096)  (hn : 128 < s.size) (hR : vB (s.extract 0 s.size).data.toList = false) (hV : vB s.data.toList = false) :
    Calls Try.prog 4 #[.string s, .int .i64 0] w fun e w' => e = .returned (.bool true) ∧ Below w.heap.size w w' := by
  have HV : Hid (vB s.data.toList = false) := hV
  clear hV
  have HR : Hid (vB (s.extract 0 s.size).data.toList = false) := hR
  clear hR
  have t1 : ¬ (4096 : Int) < (s.size : Int) := by omega
  have k1 : ((0 : Int) == (s.size : Int)) = false := by simp; omega
  have t2 : (1 : Int) ≤ (s.size : Int) := by omega
  have t3 : ¬ (s.size : Int) ≤ 128 := by omega
  go_enter Try.func4, Try.ntmps4
  go_wp2_with fail
  refine (zz7_any s _ h0 _).mono ?_
  rintro e w' ⟨rfl, rfl⟩
  go_wp2_with (first | (go_at_call_of 6 (Value.string s); refine (Len.valid_eq false s HV.out (by omega) _).mono ?_; rintro e w' ⟨rfl, rfl⟩) | (go_at_call_of 6 (Value.string (s.extract 0 s.size)); refine (Len.valid_eq false _ HR.out (by simp; omega) _).mono ?_; rintro e w' ⟨rfl, rfl⟩) | (go_at_call 8; refine (Dec.dec_zero _).mono ?_; rintro e w1 ⟨ds, rfl, hd, hdz, hb⟩))
  have HD : Hid (vB ds.data.toList = true ∧ Below w.heap.size w w1) := ⟨hd, hb⟩
  clear hd hb
  go_wp2_with (go_at_call 6; refine (Len.valid_eq true ds HD.out.1 (by omega) _).mono ?_; rintro e w' ⟨rfl, rfl⟩)
  go_ret
  exact ⟨rfl, HD.out.2⟩

set_option maxHeartbeats 2000000 in
theorem cf_b_f (s : ByteArray) (k : Nat) (w : World) (h0 : s.size ≤ 4096) (hk : k = s.size) (hn : 128 < s.size) (hL : vB (s.extract 0 k).data.toList = false) (hV : vB s.data.toList = false) :
    Calls Try.prog 4 #[.string s, .int .i64 k] w fun e w' => e = .returned (.bool true) ∧ Below w.heap.size w w' := by
  have HV : Hid (vB s.data.toList = false) := hV
  clear hV
  have HL : Hid (vB (s.extract 0 k).data.toList = false) := hL
  clear hL
  have t1 : ¬ (4096 : Int) < (s.size : Int) := by omega
  have k0 : ((k : Int) == 0) = false := by simp; omega
  have k1 : ((k : Int) == (s.size : Int)) = true := by simp [hk]
  have HK : Hid (k = s.size) := hk
  have k2 : (k : Int) ≤ (s.size : Int) := by omega
  have k3 : 1 ≤ k := by omega
  have k4 : k ≤ 4096 := by omega
  clear hk
  have t2 : (1 : Int) ≤ (s.size : Int) := by omega
  have t3 : ¬ (s.size : Int) ≤ 128 := by omega
  go_enter Try.func4, Try.ntmps4
  go_wp2_with fail
  refine (zz7_any s _ h0 _).mono ?_
  rintro e w' ⟨rfl, rfl⟩
  go_wp2_with (first | (go_at_call_of 6 (Value.string s); refine (Len.valid_eq false s HV.out (by omega) _).mono ?_; rintro e w' ⟨rfl, rfl⟩) | (go_at_call_of 6 (Value.string (s.extract 0 k)); refine (Len.valid_eq false _ HL.out (by simp; omega) _).mono ?_; rintro e w' ⟨rfl, rfl⟩) | (go_at_call 8; refine (Dec.dec_pos k (by omega) (by omega) _).mono ?_; rintro e w1 ⟨ds, rfl, hd, hdz, hb⟩))
  have HD : Hid (vB ds.data.toList = true ∧ Below w.heap.size w w1) := ⟨hd, hb⟩
  clear hd hb
  go_wp2_with (go_at_call 6; refine (Len.valid_eq true ds HD.out.1 (by omega) _).mono ?_; rintro e w' ⟨rfl, rfl⟩)
  go_ret
  exact ⟨rfl, HD.out.2⟩

set_option maxHeartbeats 2000000 in
theorem cm_b_tt (s : ByteArray) (k : Nat) (w : World) (h0 : s.size ≤ 4096) (hk : 0 < k) (hk' : k < s.size) (hn : 128 < s.size) (hL : vB (s.extract 0 k).data.toList = true) (hR : vB (s.extract k s.size).data.toList = true) (hV : vB s.data.toList = false) :
    Calls Try.prog 4 #[.string s, .int .i64 k] w fun e w' => e = .returned (.bool true) ∧ Below w.heap.size w w' := by
  have HV : Hid (vB s.data.toList = false) := hV
  clear hV
  have HL : Hid (vB (s.extract 0 k).data.toList = true) := hL
  clear hL
  have HR : Hid (vB (s.extract k s.size).data.toList = true) := hR
  clear hR
  have t1 : ¬ (4096 : Int) < (s.size : Int) := by omega
  have k0 : ((k : Int) == 0) = false := by simp; omega
  have k1 : ((k : Int) == (s.size : Int)) = false := by simp; omega
  have k2 : (k : Int) ≤ (s.size : Int) := by omega
  have t2 : (1 : Int) ≤ (s.size : Int) := by omega
  have t3 : ¬ (s.size : Int) ≤ 128 := by omega
  go_enter Try.func4, Try.ntmps4
  go_wp2_with fail
  refine (zz7_any s _ h0 _).mono ?_
  rintro e w' ⟨rfl, rfl⟩
  go_wp2_with (first | (go_at_call_of 6 (Value.string s); refine (Len.valid_eq false s HV.out (by omega) _).mono ?_; rintro e w' ⟨rfl, rfl⟩) | (go_at_call_of 6 (Value.string (s.extract 0 k)); refine (Len.valid_eq true _ HL.out (by simp; omega) _).mono ?_; rintro e w' ⟨rfl, rfl⟩) | (go_at_call_of 6 (Value.string (s.extract k s.size)); refine (Len.valid_eq true _ HR.out (by simp; omega) _).mono ?_; rintro e w' ⟨rfl, rfl⟩) | (go_at_call 8; refine (Dec.dec_pos k (by omega) (by omega) _).mono ?_; rintro e w1 ⟨ds, rfl, hd, hdz, hb⟩))
  have HD : Hid (vB ds.data.toList = true ∧ Below w.heap.size w w1) := ⟨hd, hb⟩
  clear hd hb
  go_wp2_with (go_at_call 6; refine (Len.valid_eq true ds HD.out.1 (by omega) _).mono ?_; rintro e w' ⟨rfl, rfl⟩)
  go_ret
  exact ⟨rfl, HD.out.2⟩

set_option maxHeartbeats 2000000 in
theorem cm_b_tf (s : ByteArray) (k : Nat) (w : World) (h0 : s.size ≤ 4096) (hk : 0 < k) (hk' : k < s.size) (hn : 128 < s.size) (hL : vB (s.extract 0 k).data.toList = true) (hR : vB (s.extract k s.size).data.toList = false) (hV : vB s.data.toList = false) :
    Calls Try.prog 4 #[.string s, .int .i64 k] w fun e w' => e = .returned (.bool true) ∧ Below w.heap.size w w' := by
  have HV : Hid (vB s.data.toList = false) := hV
  clear hV
  have HL : Hid (vB (s.extract 0 k).data.toList = true) := hL
  clear hL
  have HR : Hid (vB (s.extract k s.size).data.toList = false) := hR
  clear hR
  have t1 : ¬ (4096 : Int) < (s.size : Int) := by omega
  have k0 : ((k : Int) == 0) = false := by simp; omega
  have k1 : ((k : Int) == (s.size : Int)) = false := by simp; omega
  have k2 : (k : Int) ≤ (s.size : Int) := by omega
  have t2 : (1 : Int) ≤ (s.size : Int) := by omega
  have t3 : ¬ (s.size : Int) ≤ 128 := by omega
  go_enter Try.func4, Try.ntmps4
  go_wp2_with fail
  refine (zz7_any s _ h0 _).mono ?_
  rintro e w' ⟨rfl, rfl⟩
  go_wp2_with (first | (go_at_call_of 6 (Value.string s); refine (Len.valid_eq false s HV.out (by omega) _).mono ?_; rintro e w' ⟨rfl, rfl⟩) | (go_at_call_of 6 (Value.string (s.extract 0 k)); refine (Len.valid_eq true _ HL.out (by simp; omega) _).mono ?_; rintro e w' ⟨rfl, rfl⟩) | (go_at_call_of 6 (Value.string (s.extract k s.size)); refine (Len.valid_eq false _ HR.out (by simp; omega) _).mono ?_; rintro e w' ⟨rfl, rfl⟩) | (go_at_call 8; refine (Dec.dec_pos k (by omega) (by omega) _).mono ?_; rintro e w1 ⟨ds, rfl, hd, hdz, hb⟩))
  have HD : Hid (vB ds.data.toList = true ∧ Below w.heap.size w w1) := ⟨hd, hb⟩
  clear hd hb
  go_wp2_with (go_at_call 6; refine (Len.valid_eq true ds HD.out.1 (by omega) _).mono ?_; rintro e w' ⟨rfl, rfl⟩)
  go_ret
  exact ⟨rfl, HD.out.2⟩

set_option maxHeartbeats 2000000 in
theorem cm_b_ft (s : ByteArray) (k : Nat) (w : World) (h0 : s.size ≤ 4096) (hk : 0 < k) (hk' : k < s.size) (hn : 128 < s.size) (hL : vB (s.extract 0 k).data.toList = false) (hR : vB (s.extract k s.size).data.toList = true) (hV : vB s.data.toList = false) :
    Calls Try.prog 4 #[.string s, .int .i64 k] w fun e w' => e = .returned (.bool true) ∧ Below w.heap.size w w' := by
  have HV : Hid (vB s.data.toList = false) := hV
  clear hV
  have HL : Hid (vB (s.extract 0 k).data.toList = false) := hL
  clear hL
  have HR : Hid (vB (s.extract k s.size).data.toList = true) := hR
  clear hR
  have t1 : ¬ (4096 : Int) < (s.size : Int) := by omega
  have k0 : ((k : Int) == 0) = false := by simp; omega
  have k1 : ((k : Int) == (s.size : Int)) = false := by simp; omega
  have k2 : (k : Int) ≤ (s.size : Int) := by omega
  have t2 : (1 : Int) ≤ (s.size : Int) := by omega
  have t3 : ¬ (s.size : Int) ≤ 128 := by omega
  go_enter Try.func4, Try.ntmps4
  go_wp2_with fail
  refine (zz7_any s _ h0 _).mono ?_
  rintro e w' ⟨rfl, rfl⟩
  go_wp2_with (first | (go_at_call_of 6 (Value.string s); refine (Len.valid_eq false s HV.out (by omega) _).mono ?_; rintro e w' ⟨rfl, rfl⟩) | (go_at_call_of 6 (Value.string (s.extract 0 k)); refine (Len.valid_eq false _ HL.out (by simp; omega) _).mono ?_; rintro e w' ⟨rfl, rfl⟩) | (go_at_call_of 6 (Value.string (s.extract k s.size)); refine (Len.valid_eq true _ HR.out (by simp; omega) _).mono ?_; rintro e w' ⟨rfl, rfl⟩) | (go_at_call 8; refine (Dec.dec_pos k (by omega) (by omega) _).mono ?_; rintro e w1 ⟨ds, rfl, hd, hdz, hb⟩))
  have HD : Hid (vB ds.data.toList = true ∧ Below w.heap.size w w1) := ⟨hd, hb⟩
  clear hd hb
  go_wp2_with (go_at_call 6; refine (Len.valid_eq true ds HD.out.1 (by omega) _).mono ?_; rintro e w' ⟨rfl, rfl⟩)
  go_ret
  exact ⟨rfl, HD.out.2⟩

set_option maxHeartbeats 2000000 in
theorem cm_b_ff (s : ByteArray) (k : Nat) (w : World) (h0 : s.size ≤ 4096) (hk : 0 < k) (hk' : k < s.size) (hn : 128 < s.size) (hL : vB (s.extract 0 k).data.toList = false) (hR : vB (s.extract k s.size).data.toList = false) (hV : vB s.data.toList = false) :
    Calls Try.prog 4 #[.string s, .int .i64 k] w fun e w' => e = .returned (.bool true) ∧ Below w.heap.size w w' := by
  have HV : Hid (vB s.data.toList = false) := hV
  clear hV
  have HL : Hid (vB (s.extract 0 k).data.toList = false) := hL
  clear hL
  have HR : Hid (vB (s.extract k s.size).data.toList = false) := hR
  clear hR
  have t1 : ¬ (4096 : Int) < (s.size : Int) := by omega
  have k0 : ((k : Int) == 0) = false := by simp; omega
  have k1 : ((k : Int) == (s.size : Int)) = false := by simp; omega
  have k2 : (k : Int) ≤ (s.size : Int) := by omega
  have t2 : (1 : Int) ≤ (s.size : Int) := by omega
  have t3 : ¬ (s.size : Int) ≤ 128 := by omega
  go_enter Try.func4, Try.ntmps4
  go_wp2_with fail
  refine (zz7_any s _ h0 _).mono ?_
  rintro e w' ⟨rfl, rfl⟩
  go_wp2_with (first | (go_at_call_of 6 (Value.string s); refine (Len.valid_eq false s HV.out (by omega) _).mono ?_; rintro e w' ⟨rfl, rfl⟩) | (go_at_call_of 6 (Value.string (s.extract 0 k)); refine (Len.valid_eq false _ HL.out (by simp; omega) _).mono ?_; rintro e w' ⟨rfl, rfl⟩) | (go_at_call_of 6 (Value.string (s.extract k s.size)); refine (Len.valid_eq false _ HR.out (by simp; omega) _).mono ?_; rintro e w' ⟨rfl, rfl⟩) | (go_at_call 8; refine (Dec.dec_pos k (by omega) (by omega) _).mono ?_; rintro e w1 ⟨ds, rfl, hd, hdz, hb⟩))
  have HD : Hid (vB ds.data.toList = true ∧ Below w.heap.size w w1) := ⟨hd, hb⟩
  clear hd hb
  go_wp2_with (go_at_call 6; refine (Len.valid_eq true ds HD.out.1 (by omega) _).mono ?_; rintro e w' ⟨rfl, rfl⟩)
  go_ret
  exact ⟨rfl, HD.out.2⟩

set_option maxHeartbeats 2000000 in
theorem cut_empty (w : World) : Calls Try.prog 4 #[.string ⟨#[]⟩, .int .i64 0] w fun e w' => e = .returned (.bool true) ∧ Below w.heap.size w w' := by
  go_enter Try.func4, Try.ntmps4
  go_wp2_with fail
  refine (zz7_any ⟨#[]⟩ _ (by show (0 : Nat) ≤ 4096; omega) _).mono ?_
  rintro e w' ⟨rfl, rfl⟩
  go_wp2_with (first | (go_at_call_of 6 (Value.string ⟨#[]⟩); refine (Len.valid_eq false ⟨#[]⟩ rfl (by show (0 : Nat) ≤ 1048576; omega) _).mono ?_; rintro e w' ⟨rfl, rfl⟩) | (go_at_call 8; refine (Dec.dec_zero _).mono ?_; rintro e w1 ⟨ds, rfl, hd, hdz, hb⟩))
  have HD : Hid (vB ds.data.toList = true ∧ Below w.heap.size w w1) := ⟨hd, hb⟩
  clear hd hb
  go_wp2_with (go_at_call 6; refine (Len.valid_eq true ds HD.out.1 (by omega) _).mono ?_; rintro e w' ⟨rfl, rfl⟩)
  go_ret
  exact ⟨rfl, HD.out.2⟩

set_option maxHeartbeats 1000000 in
theorem cut_out (s : ByteArray) (k : Int) (w : World) (hs : s.size ≤ 9223372036854775807) (h : (4096 : Int) < (s.size : Int) ∨ (¬ (4096 : Int) < (s.size : Int) ∧ k < 0) ∨ (¬ (4096 : Int) < (s.size : Int) ∧ ¬ k < 0 ∧ (s.size : Int) < k)) : Calls Try.prog 4 #[.string s, .int .i64 k] w fun e w' => e = .returned (.bool true) ∧ Below w.heap.size w w' := by
  rcases h with h1 | ⟨h1, h2⟩ | ⟨h1, h2, h3⟩
  all_goals
    go_enter Try.func4, Try.ntmps4
    go_wp2_with fail
    refine (zz7_big s _ _).mono ?_
    rintro e w' ⟨r, rfl, rfl⟩
    cases r
    all_goals
      go_wp2
      go_ret
      exact ⟨rfl, Below.refl _ _⟩

theorem whole_is (s : ByteArray) : (s.extract 0 s.size).data.toList = s.data.toList := by
  rw [Lib.extract_data]
  have : s.data.toList.length = s.size := by simp
  simp only [List.drop_zero, Nat.sub_zero]
  exact List.take_of_length_le (by omega)

theorem big_is (s : ByteArray) (h : 128 < s.size) : vB s.data.toList = false := by
  have : s.data.toList.length = s.size := by simp
  unfold vB lenB
  rw [this]
  simp
  omega

theorem mid_is (s : ByteArray) (k : Nat) (h0 : 0 < k) (h1 : k < s.size) (h2 : s.size ≤ 128) : vB s.data.toList = (vB (s.extract 0 k).data.toList && vB (s.extract k s.size).data.toList) := by
  have hl : s.data.toList.length = s.size := by simp
  rw [Lib.extract_data, Lib.extract_data]
  generalize s.data.toList = l at *
  have e1 : (l.drop k).take (s.size - k) = l.drop k := List.take_of_length_le (by rw [List.length_drop]; omega)
  simp only [List.drop_zero, Nat.sub_zero]
  rw [e1]
  unfold vB lenB
  have a1 : (l.take k).length = k := by rw [List.length_take]; omega
  have a2 : (l.drop k).length = s.size - k := by rw [List.length_drop]; omega
  rw [a1, a2, hl]
  have b1 : decide (1 ≤ s.size ∧ s.size ≤ 128) = true := by simp; omega
  have b2 : decide (1 ≤ k ∧ k ≤ 128) = true := by simp; omega
  have b3 : decide (1 ≤ s.size - k ∧ s.size - k ≤ 128) = true := by simp; omega
  rw [b1, b2, b3]
  simp only [Bool.true_and]
  rw [← allB_append, List.take_append_drop]

theorem cut_any (s : ByteArray) (k : Int) (w : World) (hs : s.size ≤ 9223372036854775807) : Calls Try.prog 4 #[.string s, .int .i64 k] w fun e w' => e = .returned (.bool true) ∧ Below w.heap.size w w' := by
  by_cases h1 : (4096 : Int) < (s.size : Int)
  · exact cut_out s k w hs (Or.inl h1)
  by_cases h2 : k < 0
  · exact cut_out s k w hs (Or.inr (Or.inl ⟨h1, h2⟩))
  by_cases h3 : (s.size : Int) < k
  · exact cut_out s k w hs (Or.inr (Or.inr ⟨h1, h2, h3⟩))
  obtain ⟨n, rfl⟩ : ∃ n : Nat, k = n := ⟨k.toNat, by omega⟩
  have h0 : s.size ≤ 4096 := by omega
  by_cases hz : s.size = 0
  · have e : s = ⟨#[]⟩ := by
      obtain ⟨d⟩ := s
      have : d = #[] := Array.eq_empty_of_size_eq_zero hz
      rw [this]
    have en : n = 0 := by omega
    rw [e, en]
    exact cut_empty w
  by_cases hn0 : n = 0
  · subst hn0
    have hw : vB (s.extract 0 s.size).data.toList = vB s.data.toList := by rw [whole_is]
    by_cases hb : 128 < s.size
    · have hv := big_is s hb
      exact cz_b_f s w h0 hb (by rw [hw, hv]) hv
    · cases hv : vB s.data.toList
      · exact cz_m_f s w h0 (by omega) (by omega) (by rw [hw, hv]) hv
      · exact cz_m_t s w h0 (by omega) (by omega) (by rw [hw, hv]) hv
  by_cases hnn : n = s.size
  · have hw : vB (s.extract 0 n).data.toList = vB s.data.toList := by rw [hnn, whole_is]
    by_cases hb : 128 < s.size
    · have hv := big_is s hb
      exact cf_b_f s n w h0 hnn hb (by rw [hw, hv]) hv
    · cases hv : vB s.data.toList
      · exact cf_m_f s n w h0 hnn (by omega) (by omega) (by rw [hw, hv]) hv
      · exact cf_m_t s n w h0 hnn (by omega) (by omega) (by rw [hw, hv]) hv
  have hk1 : 0 < n := by omega
  have hk2 : n < s.size := by omega
  by_cases hb : 128 < s.size
  · have hv := big_is s hb
    cases hL : vB (s.extract 0 n).data.toList <;> cases hR : vB (s.extract n s.size).data.toList
    · exact cm_b_ff s n w h0 hk1 hk2 hb hL hR hv
    · exact cm_b_ft s n w h0 hk1 hk2 hb hL hR hv
    · exact cm_b_tf s n w h0 hk1 hk2 hb hL hR hv
    · exact cm_b_tt s n w h0 hk1 hk2 hb hL hR hv
  · have hm := mid_is s n hk1 hk2 (by omega)
    cases hL : vB (s.extract 0 n).data.toList <;> cases hR : vB (s.extract n s.size).data.toList
    · exact cm_m_ff s n w h0 hk1 hk2 (by omega) (by omega) hL hR (by rw [hm, hL, hR]; rfl)
    · exact cm_m_ft s n w h0 hk1 hk2 (by omega) (by omega) hL hR (by rw [hm, hL, hR]; rfl)
    · exact cm_m_tf s n w h0 hk1 hk2 (by omega) (by omega) hL hR (by rw [hm, hL, hR]; rfl)
    · exact cm_m_tt s n w h0 hk1 hk2 (by omega) (by omega) hL hR (by rw [hm, hL, hR]; rfl)

end Go.Proofs.Qxb6626434a.Cut
