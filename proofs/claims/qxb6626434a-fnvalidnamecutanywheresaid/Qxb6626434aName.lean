import Derived.Test.Qxb6626434aRows
import Derived.WalkKit
import Derived.ProofKit
import Derived.WalkLawsBesides
import Derived.Lib.Strings
namespace Go.Proofs.Qxb6626434a.Name
open Go.RowKit
set_option linter.unusedVariables false

/-- May a byte stand in a name? -/
def nbI (c : Int) : Bool := decide ((97 ≤ c ∧ c ≤ 122) ∨ (65 ≤ c ∧ c ≤ 90) ∨ (48 ≤ c ∧ c ≤ 57) ∨ c = 46 ∨ c = 45 ∨ c = 95)

def allB (l : List UInt8) : Bool := l.all fun b => nbI (b.toNat : Int)
def lenB (n : Nat) : Bool := decide (1 ≤ n ∧ n ≤ 128)
/-- Is it a name? -/
def vB (l : List UInt8) : Bool := lenB l.length && allB l

theorem nameByte_any (c : Int) (h0 : 0 ≤ c) (h1 : c ≤ 255) (w : World) : Calls Try.prog 9 #[.int .u8 c] w fun e w' => e = .returned (.bool (nbI c)) ∧ w = w' := by
  by_cases a : 97 ≤ c ∧ c ≤ 122
  · have hr : Hid (nbI c = true) := by unfold Hid nbI; simp; omega
    obtain ⟨a1, a2⟩ := a
    go_enter Try.func9, Try.ntmps9
    go_wp2
    go_ret
    exact ⟨by rw [hr.out]; rfl, rfl⟩
  by_cases b : 65 ≤ c ∧ c ≤ 90
  · have hr : Hid (nbI c = true) := by unfold Hid nbI; simp; omega
    obtain ⟨b1, b2⟩ := b
    clear a
    go_enter Try.func9, Try.ntmps9
    go_wp2
    go_ret
    exact ⟨by rw [hr.out]; rfl, rfl⟩
  by_cases d : 48 ≤ c ∧ c ≤ 57
  · have hr : Hid (nbI c = true) := by unfold Hid nbI; simp; omega
    obtain ⟨d1, d2⟩ := d
    clear a b
    go_enter Try.func9, Try.ntmps9
    go_wp2
    go_ret
    exact ⟨by rw [hr.out]; rfl, rfl⟩
  by_cases e1 : c = 46
  · subst e1
    have hr : Hid (nbI 46 = true) := by unfold Hid nbI; simp
    clear a b d
    go_enter Try.func9, Try.ntmps9
    go_wp2
    go_ret
    exact ⟨by rw [hr.out]; rfl, rfl⟩
  by_cases e2 : c = 45
  · subst e2
    have hr : Hid (nbI 45 = true) := by unfold Hid nbI; simp
    clear a b d
    go_enter Try.func9, Try.ntmps9
    go_wp2
    go_ret
    exact ⟨by rw [hr.out]; rfl, rfl⟩
  by_cases e3 : c = 95
  · subst e3
    have hr : Hid (nbI 95 = true) := by unfold Hid nbI; simp
    clear a b d
    go_enter Try.func9, Try.ntmps9
    go_wp2
    go_ret
    exact ⟨by rw [hr.out]; rfl, rfl⟩
  have hr : Hid (nbI c = false) := by unfold Hid nbI; simp; omega
  have f1 : (c == 46) = false := by simpa using e1
  have f2 : (c == 45) = false := by simpa using e2
  have f3 : (c == 95) = false := by simpa using e3
  have hd : c < 48 ∨ (57 < c ∧ c < 65) ∨ (90 < c ∧ c < 97) ∨ 122 < c := by omega
  clear a b d e1 e2 e3
  rcases hd with hd | ⟨hd, hd'⟩ | ⟨hd, hd'⟩ | hd
  all_goals
    go_enter Try.func9, Try.ntmps9
    go_wp2
    go_ret
    exact ⟨by rw [hr.out]; rfl, rfl⟩

theorem take_snoc (s : ByteArray) (k : Nat) (h : k < s.size) : s.data.toList.take (k + 1) = s.data.toList.take k ++ [s[k]] := by
  rw [List.take_succ_eq_append_getElem (by simpa using h)]; rfl

theorem allB_snoc (l : List UInt8) (c : UInt8) : allB (l ++ [c]) = (allB l && nbI (c.toNat : Int)) := by simp [allB]
theorem allB_append (l m : List UInt8) : allB (l ++ m) = (allB l && allB m) := by simp [allB]

theorem allB_no {l : List UInt8} {k : Nat} (h : k < l.length) (hb : nbI ((l[k]).toNat : Int) = false) : allB l = false := by
  unfold allB
  rw [List.all_eq_false]
  exact ⟨l[k], List.getElem_mem h, by simp [hb]⟩

set_option maxHeartbeats 1000000 in
theorem valid_any (s : ByteArray) (hs : s.size ≤ 1048576) (w : World) : Calls Try.prog 6 #[.string s] w fun e w' => e = .returned (.bool (vB s.data.toList)) ∧ w = w' := by
  have hsz : s.data.toList.length = s.size := by simp
  by_cases h0 : s.size = 0
  · have hr : Hid (vB s.data.toList = false) := by unfold Hid vB lenB; rw [hsz, h0]; simp
    have h0' : ((s.size : Int) == 0) = true := by simp [h0]
    clear hsz h0
    go_enter Try.func6, Try.ntmps6
    go_wp2
    go_ret
    exact ⟨by rw [hr.out]; rfl, rfl⟩
  have h0' : ((s.size : Int) == 0) = false := by simpa using h0
  by_cases h1 : 128 < s.size
  · have hr : Hid (vB s.data.toList = false) := by unfold Hid vB lenB; rw [hsz]; simp; omega
    have h1' : (128 : Int) < (s.size : Int) := by omega
    clear hsz h0 h1
    go_enter Try.func6, Try.ntmps6
    go_wp2
    go_ret
    exact ⟨by rw [hr.out]; rfl, rfl⟩
  have h1' : ¬ (128 : Int) < (s.size : Int) := by omega
  have HV : Hid (vB s.data.toList = allB s.data.toList) := by unfold Hid vB lenB; rw [hsz]; simp; intro h; omega
  have HSZ : Hid (s.data.toList.length = s.size) := hsz
  clear hsz h0
  go_enter Try.func6, Try.ntmps6
  go_wp2
  go_loop [14] (fun i => ∃ k : Nat, k ≤ s.size ∧ i = .int .i64 k ∧ allB (s.data.toList.take k) = true) (fun i => s.size - (intOf i).toNat)
  case atStart => exact ⟨0, Nat.zero_le _, rfl, rfl⟩
  case round =>
    obtain ⟨k, hk, rfl, ha⟩ := hrel
    have HA : Hid (allB (s.data.toList.take k) = true) := ha
    clear ha
    by_cases hlt : k < s.size
    · have HT : Hid (allB (s.data.toList.take (k + 1)) = nbI (s[k].toNat : Int)) := by unfold Hid; rw [take_snoc s k hlt, allB_snoc, HA.out]; simp
      have HNO : Hid (nbI (s[k].toNat : Int) = false → allB s.data.toList = false) := fun h => allB_no (k := k) (by rw [HSZ.out]; exact hlt) h
      have hb : s[k].toNat < 256 := UInt8.toNat_lt _
      by_cases hn : nbI (s[k].toNat : Int) = true
      · go_wp2_with (go_at_call 9; refine (nameByte_any _ (by omega) (by omega) _).mono ?_; rintro e w' ⟨rfl, rfl⟩)
        go_round
        case rel => exact ⟨k + 1, hlt, by go_num, by rw [HT.out]; exact hn⟩
        case measure => simp [intOf]; omega
      · have hn' : nbI (s[k].toNat : Int) = false := by simpa using hn
        clear hn
        go_wp2_with (go_at_call 9; refine (nameByte_any _ (by omega) (by omega) _).mono ?_; rintro e w' ⟨rfl, rfl⟩)
        go_ret
        exact ⟨by rw [HV.out, HNO.out hn']; rfl, rfl⟩
    · have hr : Hid (allB s.data.toList = true) := by have h := HA.out; rwa [List.take_of_length_le (by rw [HSZ.out]; omega)] at h
      go_wp2
      go_ret
      exact ⟨by rw [HV.out, hr.out]; rfl, rfl⟩

end Go.Proofs.Qxb6626434a.Name
