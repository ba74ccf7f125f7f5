import Derived.Test.Qxb6626293aRows
import Derived.Test.Qxb6626293aMem
import Derived.WalkLawsBesides
import Derived.ProofKit
namespace Go.Proofs.Qxb6626293a.Sizes
open Go.RowKit Mem
set_option linter.unusedVariables false

/-- A guard's answer: a bool, the world as it was; 'true' says p. -/
def Guarded (p : Prop) (w : World) (e : Ending) (w' : World) : Prop := w = w' ∧ ∃ r, e = .returned (.bool r) ∧ (r = true → p)
theorem Guarded.no (p : Prop) (w : World) : Guarded p w (.returned (.bool false)) w := ⟨rfl, false, rfl, fun h => by cases h⟩
theorem Guarded.yes {p : Prop} (w : World) (h : p) : Guarded p w (.returned (.bool true)) w := ⟨rfl, true, rfl, fun _ => h⟩

/-- What 'sizeOK' promises of the sets. -/
def Small (l : List MSet) : Prop := l.length ≤ 16384 ∧ ∀ j (hj : j < l.length), l[j].mem.length ≤ 1048576 ∧ l[j].val.length ≤ 1048576

set_option maxHeartbeats 1000000 in
theorem size_any (A : Option Addr) (l : List MSet) (cap : Nat) (w : World) (hz : Sets w A l) (hn : l.length ≤ 9223372036854775807) :
    Calls Try.prog 6 #[.slice A l.length cap] w (Guarded (Small l) w) := by
  by_cases h0 : 16384 < l.length
  · have h0' : (16384 : Int) < (l.length : Int) := by omega
    clear hz
    go_enter Try.func6, Try.ntmps6
    go_wp2
    go_ret
    exact Guarded.no _ _
  · have h0' : ¬ (16384 : Int) < (l.length : Int) := by omega
    have HZ : Hid (Sets w A l) := hz
    clear hz
    go_enter Try.func6, Try.ntmps6
    go_wp2
    go_loop [3, 4] (fun t i => ∃ (n : Nat) (m : Int), n ≤ l.length ∧ i = .int .i64 n ∧ t = .int .i64 m ∧ 0 ≤ m ∧ m ≤ 1048576 ∧ ∀ j (hj : j < l.length), j < n → l[j].mem.length ≤ 1048576 ∧ l[j].val.length ≤ 1048576) (fun _ i => l.length - (intOf i).toNat)
    case atStart => exact ⟨0, 0, Nat.zero_le _, rfl, rfl, by omega, by omega, fun j _ hj => absurd hj (Nat.not_lt_zero _)⟩
    case round =>
      obtain ⟨n, m, hle, rfl, rfl, m0, m1, hall⟩ := hrel
      have HA : Hid (∀ j (hj : j < l.length), j < n → l[j].mem.length ≤ 1048576 ∧ l[j].val.length ≤ 1048576) := hall
      clear hall
      by_cases hlt : n < l.length
      · obtain ⟨b, off, rfl, hc⟩ : ∃ b off, A = some ⟨b, off, none⟩ ∧ ∀ i (hi : i < l.length), SetAt w b (off + i * 5) l[i] := by
          rcases HZ.out with h | h
          · have : l.length = 0 := by rw [h]; rfl
            omega
          · exact h
        obtain ⟨M, V, c, d, c0, c1, c2, c3, c4, hm, hv⟩ := hc n hlt
        obtain ⟨x, hx⟩ : ∃ x, l[n].mem.length = x := ⟨_, rfl⟩
        obtain ⟨y, hy⟩ : ∃ y, l[n].val.length = y := ⟨_, rfl⟩
        rw [hx] at c0
        rw [hy] at c4
        have HX : Hid (l[n].mem.length = x) := hx
        have HY : Hid (l[n].val.length = y) := hy
        clear hx hy hc hm hv c1 c2 c3
        go_wp2
        case roundEnd =>
          go_round
          case rel => exact ⟨n + 1, _, hlt, by go_num, rfl, by omega, by omega, fun j hj h1 => by
            by_cases e : j = n
            · subst e; rw [HX.out, HY.out]; omega
            · exact HA.out j hj (by omega)⟩
          case measure => simp [intOf]; omega
        all_goals
          go_ret
          exact Guarded.no _ _
      · go_wp2
        go_ret
        exact Guarded.yes _ ⟨by omega, fun j hj => HA.out j hj (by omega)⟩

set_option maxHeartbeats 1000000 in
theorem zz12_any (A : Option Addr) (l : List MSet) (cap : Nat) (i : Int) (w : World) (hz : Sets w A l) (hn : l.length ≤ 9223372036854775807) :
    Calls Try.prog 12 #[.slice A l.length cap, .int .i64 i] w (Guarded True w) := by
  by_cases h0 : 1048576 < l.length
  · have h0' : (1048576 : Int) < (l.length : Int) := by omega
    clear hz
    go_enter Try.func12, Try.ntmps12
    go_wp2
    go_ret
    exact Guarded.no _ _
  · have h0' : ¬ (1048576 : Int) < (l.length : Int) := by omega
    have HZ : Hid (Sets w A l) := hz
    clear hz
    go_enter Try.func12, Try.ntmps12
    go_wp2
    go_loop [5, 6] (fun t i => ∃ (n : Nat) (m : Int), n ≤ l.length ∧ i = .int .i64 n ∧ t = .int .i64 m ∧ 0 ≤ m ∧ m ≤ 1048576) (fun _ i => l.length - (intOf i).toNat)
    case atStart => exact ⟨0, l.length, Nat.zero_le _, rfl, rfl, by omega, by omega⟩
    case round =>
      obtain ⟨n, m, hle, rfl, rfl, m0, m1⟩ := hrel
      by_cases hlt : n < l.length
      · obtain ⟨b, off, rfl, hc⟩ : ∃ b off, A = some ⟨b, off, none⟩ ∧ ∀ i (hi : i < l.length), SetAt w b (off + i * 5) l[i] := by
          rcases HZ.out with h | h
          · have : l.length = 0 := by rw [h]; rfl
            omega
          · exact h
        obtain ⟨M, V, c, d, c0, c1, c2, c3, c4, hm, hv⟩ := hc n hlt
        obtain ⟨x, hx⟩ : ∃ x, l[n].mem.length = x := ⟨_, rfl⟩
        obtain ⟨y, hy⟩ : ∃ y, l[n].val.length = y := ⟨_, rfl⟩
        rw [hx] at c0
        rw [hy] at c4
        have HX : Hid (l[n].mem.length = x) := hx
        have HY : Hid (l[n].val.length = y) := hy
        clear hx hy hc hm hv c1 c2 c3
        go_wp2
        case roundEnd =>
          go_round
          case rel => exact ⟨n + 1, _, hlt, by go_num, rfl, by omega, by omega⟩
          case measure => simp [intOf]; omega
        all_goals
          go_ret
          exact Guarded.no _ _
      · go_wp2
        go_ret
        exact Guarded.yes _ trivial

set_option maxHeartbeats 1000000 in
theorem zz5_any (A : Option Addr) (l : List MSet) (cap : Nat) (k s : Int) (w : World) (hz : Sets w A l) (hn : l.length ≤ 9223372036854775807) :
    Calls Try.prog 5 #[.slice A l.length cap, .int .i64 k, .int .u64 s] w (Guarded True w) := by
  by_cases h0 : 1048576 < l.length
  · have h0' : (1048576 : Int) < (l.length : Int) := by omega
    clear hz
    go_enter Try.func5, Try.ntmps5
    go_wp2
    go_ret
    exact Guarded.no _ _
  · have h0' : ¬ (1048576 : Int) < (l.length : Int) := by omega
    have HZ : Hid (Sets w A l) := hz
    clear hz
    go_enter Try.func5, Try.ntmps5
    go_wp2
    go_loop [7, 8] (fun t i => ∃ (n : Nat) (m : Int), n ≤ l.length ∧ i = .int .i64 n ∧ t = .int .i64 m ∧ 0 ≤ m ∧ m ≤ 1048576) (fun _ i => l.length - (intOf i).toNat)
    case atStart => exact ⟨0, l.length, Nat.zero_le _, rfl, rfl, by omega, by omega⟩
    case round =>
      obtain ⟨n, m, hle, rfl, rfl, m0, m1⟩ := hrel
      by_cases hlt : n < l.length
      · obtain ⟨b, off, rfl, hc⟩ : ∃ b off, A = some ⟨b, off, none⟩ ∧ ∀ i (hi : i < l.length), SetAt w b (off + i * 5) l[i] := by
          rcases HZ.out with h | h
          · have : l.length = 0 := by rw [h]; rfl
            omega
          · exact h
        obtain ⟨M, V, c, d, c0, c1, c2, c3, c4, hm, hv⟩ := hc n hlt
        obtain ⟨x, hx⟩ : ∃ x, l[n].mem.length = x := ⟨_, rfl⟩
        obtain ⟨y, hy⟩ : ∃ y, l[n].val.length = y := ⟨_, rfl⟩
        rw [hx] at c0
        rw [hy] at c4
        have HX : Hid (l[n].mem.length = x) := hx
        have HY : Hid (l[n].val.length = y) := hy
        clear hx hy hc hm hv c1 c2 c3
        go_wp2
        case roundEnd =>
          go_round
          case rel => exact ⟨n + 1, _, hlt, by go_num, rfl, by omega, by omega⟩
          case measure => simp [intOf]; omega
        all_goals
          go_ret
          exact Guarded.no _ _
      · go_wp2
        go_ret
        exact Guarded.yes _ trivial

end Go.Proofs.Qxb6626293a.Sizes
