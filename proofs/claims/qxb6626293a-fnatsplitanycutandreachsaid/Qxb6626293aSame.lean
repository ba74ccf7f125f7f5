import Derived.Test.Qxb6626293aRows
import Derived.Test.Qxb6626293aMem
import Derived.WalkLawsBesides
import Derived.Lib.SliceRun
import Derived.ProofKit
namespace Go.Proofs.Qxb6626293a.Same
open Go.RowKit Mem
set_option linter.unusedVariables false

/-- Are two lists one? (Not to be laid open by the walk.) -/
def sameB (a b : List Int) : Bool := decide (a = b)


set_option maxHeartbeats 1000000 in
theorem sameInts_any (A B : Option Addr) (zs ys : List Int) (c d : Nat) (w : World) (hz : Ints w .i64 A zs) (hy : Ints w .i64 B ys) (hn : zs.length ≤ 1048576) (hm : ys.length ≤ 1048576) :
    Calls Try.prog 15 #[.slice A zs.length c, .slice B ys.length d] w fun e w' => e = .returned (.bool (sameB zs ys)) ∧ ∃ n, w' = w.drewN n := by
  by_cases hl : zs.length = ys.length
  · have hl' : ((zs.length : Int) == (ys.length : Int)) = true := by simp [hl]
    have HL : Hid (zs.length = ys.length) := hl
    have HZ : Hid (Ints w .i64 A zs) := hz
    have HY : Hid (Ints w .i64 B ys) := hy
    have hl1 : zs.length ≤ ys.length := by omega
    have hl2 : ys.length ≤ zs.length := by omega
    clear hz hy hl
    go_enter Try.func15, Try.ntmps15
    go_wp2
    go_loopw [5] (fun i wr => ∃ n : Nat, n ≤ zs.length ∧ i = .int .i64 n ∧ (∃ m, wr = w.drewN m) ∧ ∀ j, j < n → zs.getD j 0 = ys.getD j 0) (fun i _ => zs.length - (intOf i).toNat)
    case atStart => exact ⟨0, Nat.zero_le _, rfl, ⟨0, rfl⟩, fun j hj => absurd hj (Nat.not_lt_zero _)⟩
    case round =>
      obtain ⟨n, hle, rfl, ⟨m, rfl⟩, heq⟩ := hrel
      have HE : Hid (∀ j, j < n → zs.getD j 0 = ys.getD j 0) := heq
      clear heq
      by_cases hlt : n < zs.length
      · obtain ⟨b, off, rfl, hc⟩ : ∃ b off, A = some ⟨b, off, none⟩ ∧ ∀ i, i < zs.length → w.cell? ⟨b, off + i, none⟩ = some (.int .i64 (zs.getD i 0)) := by
          rcases HZ.out with h | h
          · rw [h] at hlt; cases hlt
          · exact h
        obtain ⟨b2, off2, rfl, hc2⟩ : ∃ b off, B = some ⟨b, off, none⟩ ∧ ∀ i, i < ys.length → w.cell? ⟨b, off + i, none⟩ = some (.int .i64 (ys.getD i 0)) := by
          rcases HY.out with h | h
          · have h0 : ys.length = 0 := by rw [h]; rfl
            omega
          · exact h
        have g1 := hc n hlt
        have g2 := hc2 n (by omega)
        have b1' : ((n : Int)) < (zs.length : Int) := by omega
        have b2' : ((n : Int)) < (ys.length : Int) := by omega
        clear hc hc2
        obtain ⟨x, hx⟩ : ∃ x, zs.getD n 0 = x := ⟨_, rfl⟩
        obtain ⟨y, hy⟩ : ∃ y, ys.getD n 0 = y := ⟨_, rfl⟩
        rw [hx] at g1
        rw [hy] at g2
        have HX : Hid (zs.getD n 0 = x) := hx
        have HYY : Hid (ys.getD n 0 = y) := hy
        clear hx hy
        by_cases hxy : x = y
        · subst hxy
          go_wp2
          go_quiet (fail)
          go_wp2
          go_roundw
          case rel => exact ⟨n + 1, hlt, by go_num, ⟨_, rfl⟩, fun j hj => by
            by_cases e : j = n
            · subst e; rw [HX.out, HYY.out]
            · exact HE.out j (by omega)⟩
          case measure => simp [intOf]; omega
        · have hxy' : (x == y) = false := by simpa using hxy
          have hxy2 : (x != y) = true := by simpa using hxy
          have hs : Hid (sameB zs ys = false) := by unfold Hid sameB; simp; intro h; rw [h, HYY.out] at HX; exact hxy HX.out.symm
          clear hxy
          go_wp2
          go_quiet (fail)
          go_wp2
          go_ret
          exact ⟨by rw [hs.out]; rfl, _, World.drewN_drewN ..⟩
      · have hs : Hid (sameB zs ys = true) := by
          unfold Hid sameB
          simp only [decide_eq_true_eq]
          apply List.ext_getElem HL.out
          intro j h1 h2
          have := HE.out j (by omega)
          simpa [h1, h2] using this
        go_wp2
        go_ret
        exact ⟨by rw [hs.out]; rfl, m, rfl⟩
  · have hl' : ((zs.length : Int) == (ys.length : Int)) = false := by simp; omega
    have hs : sameB zs ys = false := by unfold sameB; simp; intro h; exact hl (by rw [h])
    clear hz hy
    go_enter Try.func15, Try.ntmps15
    go_wp2
    go_ret
    exact ⟨by rw [hs]; rfl, 0, rfl⟩

set_option maxHeartbeats 1000000 in
theorem sameBytes_any (A B : Option Addr) (zs ys : List Int) (c d : Nat) (w : World) (hz : Ints w .u8 A zs) (hy : Ints w .u8 B ys) (hn : zs.length ≤ 1048576) (hm : ys.length ≤ 1048576) :
    Calls Try.prog 16 #[.slice A zs.length c, .slice B ys.length d] w fun e w' => e = .returned (.bool (sameB zs ys)) ∧ ∃ n, w' = w.drewN n := by
  by_cases hl : zs.length = ys.length
  · have hl' : ((zs.length : Int) == (ys.length : Int)) = true := by simp [hl]
    have HL : Hid (zs.length = ys.length) := hl
    have HZ : Hid (Ints w .u8 A zs) := hz
    have HY : Hid (Ints w .u8 B ys) := hy
    have hl1 : zs.length ≤ ys.length := by omega
    have hl2 : ys.length ≤ zs.length := by omega
    clear hz hy hl
    go_enter Try.func16, Try.ntmps16
    go_wp2
    go_loopw [5] (fun i wr => ∃ n : Nat, n ≤ zs.length ∧ i = .int .i64 n ∧ (∃ m, wr = w.drewN m) ∧ ∀ j, j < n → zs.getD j 0 = ys.getD j 0) (fun i _ => zs.length - (intOf i).toNat)
    case atStart => exact ⟨0, Nat.zero_le _, rfl, ⟨0, rfl⟩, fun j hj => absurd hj (Nat.not_lt_zero _)⟩
    case round =>
      obtain ⟨n, hle, rfl, ⟨m, rfl⟩, heq⟩ := hrel
      have HE : Hid (∀ j, j < n → zs.getD j 0 = ys.getD j 0) := heq
      clear heq
      by_cases hlt : n < zs.length
      · obtain ⟨b, off, rfl, hc⟩ : ∃ b off, A = some ⟨b, off, none⟩ ∧ ∀ i, i < zs.length → w.cell? ⟨b, off + i, none⟩ = some (.int .u8 (zs.getD i 0)) := by
          rcases HZ.out with h | h
          · rw [h] at hlt; cases hlt
          · exact h
        obtain ⟨b2, off2, rfl, hc2⟩ : ∃ b off, B = some ⟨b, off, none⟩ ∧ ∀ i, i < ys.length → w.cell? ⟨b, off + i, none⟩ = some (.int .u8 (ys.getD i 0)) := by
          rcases HY.out with h | h
          · have h0 : ys.length = 0 := by rw [h]; rfl
            omega
          · exact h
        have g1 := hc n hlt
        have g2 := hc2 n (by omega)
        have b1' : ((n : Int)) < (zs.length : Int) := by omega
        have b2' : ((n : Int)) < (ys.length : Int) := by omega
        clear hc hc2
        obtain ⟨x, hx⟩ : ∃ x, zs.getD n 0 = x := ⟨_, rfl⟩
        obtain ⟨y, hy⟩ : ∃ y, ys.getD n 0 = y := ⟨_, rfl⟩
        rw [hx] at g1
        rw [hy] at g2
        have HX : Hid (zs.getD n 0 = x) := hx
        have HYY : Hid (ys.getD n 0 = y) := hy
        clear hx hy
        by_cases hxy : x = y
        · subst hxy
          go_wp2
          go_quiet (fail)
          go_wp2
          go_roundw
          case rel => exact ⟨n + 1, hlt, by go_num, ⟨_, rfl⟩, fun j hj => by
            by_cases e : j = n
            · subst e; rw [HX.out, HYY.out]
            · exact HE.out j (by omega)⟩
          case measure => simp [intOf]; omega
        · have hxy' : (x == y) = false := by simpa using hxy
          have hxy2 : (x != y) = true := by simpa using hxy
          have hs : Hid (sameB zs ys = false) := by unfold Hid sameB; simp; intro h; rw [h, HYY.out] at HX; exact hxy HX.out.symm
          clear hxy
          go_wp2
          go_quiet (fail)
          go_wp2
          go_ret
          exact ⟨by rw [hs.out]; rfl, _, World.drewN_drewN ..⟩
      · have hs : Hid (sameB zs ys = true) := by
          unfold Hid sameB
          simp only [decide_eq_true_eq]
          apply List.ext_getElem HL.out
          intro j h1 h2
          have := HE.out j (by omega)
          simpa [h1, h2] using this
        go_wp2
        go_ret
        exact ⟨by rw [hs.out]; rfl, m, rfl⟩
  · have hl' : ((zs.length : Int) == (ys.length : Int)) = false := by simp; omega
    have hs : sameB zs ys = false := by unfold sameB; simp; intro h; exact hl (by rw [h])
    clear hz hy
    go_enter Try.func16, Try.ntmps16
    go_wp2
    go_ret
    exact ⟨by rw [hs]; rfl, 0, rfl⟩

end Go.Proofs.Qxb6626293a.Same
