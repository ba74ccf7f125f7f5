import Derived.Test.Qxb6626293aSame
namespace Go.Proofs.Qxb6626293a.At
open Go.RowKit Mem
set_option linter.unusedVariables false

/-- What 'At' answers: the last set whose From is at most the slot; else nothing. -/
def AtPost (l : List MSet) (slot : Int) (w : World) (e : Ending) (w' : World) : Prop :=
  Below w.heap.size w w' ∧
  ((∃ (k : Nat) (hk : k < l.length) (M V : Option Addr) (c d : Nat), e = .returned (.tuple #[.agg #[.slice M l[k].mem.length c, .int .u64 l[k].frm, .int .u64 l[k].idx, .int .i64 l[k].win, .slice V l[k].val.length d], .bool true]) ∧
      Ints w' .i64 M l[k].mem ∧ Ints w' .u8 V l[k].val ∧ l[k].frm ≤ slot ∧ ∀ j (hj : j < l.length), k < j → slot < l[j].frm) ∨
   (e = .returned (.tuple #[.agg #[.slice none 0 0, .int .u64 0, .int .u64 0, .int .i64 0, .slice none 0 0], .bool false]) ∧ ∀ j (hj : j < l.length), slot < l[j].frm))

set_option maxHeartbeats 1000000 in
theorem at_any (A : Option Addr) (l : List MSet) (cap : Nat) (slot : Int) (w : World) (hz : Sets w A l) (hn : l.length ≤ 16384) :
    Calls Try.prog 8 #[.slice A l.length cap, .int .u64 slot] w (AtPost l slot w) := by
  have HZ : Hid (Sets w A l) := hz
  clear hz
  go_enter Try.func8, Try.ntmps8
  go_wp2
  go_loop [6] (fun i => ∃ (n : Int), n < l.length ∧ -1 ≤ n ∧ i = .int .i64 n ∧ ∀ j (hj : j < l.length), n < j → slot < l[j].frm) (fun i => (1 + intOf i).toNat)
  case atStart => exact ⟨_, by omega, by omega, rfl, fun j hj h => by omega⟩
  case round =>
    obtain ⟨n, hle, hge, rfl, hall⟩ := hrel
    have HA : Hid (∀ j (hj : j < l.length), n < j → slot < l[j].frm) := hall
    clear hall
    by_cases hlt : 0 ≤ n
    · obtain ⟨k, rfl⟩ : ∃ k : Nat, n = k := ⟨n.toNat, by omega⟩
      have hk : k < l.length := by omega
      obtain ⟨b, off, rfl, hc⟩ : ∃ b off, A = some ⟨b, off, none⟩ ∧ ∀ i (hi : i < l.length), SetAt w b (off + i * 5) l[i] := by
        rcases HZ.out with h | h
        · have : l.length = 0 := by rw [h]; rfl
          omega
        · exact h
      obtain ⟨M, V, c, d, c0, c1, c2, c3, c4, hm, hv⟩ := hc k hk
      have hbk : b < w.heap.size := World.block_lt_of_cell? _ _ c0
      by_cases hf : l[k].frm ≤ slot
      · go_wp2
        have bel := (Below.refl w.heap.size w).alloc (Nat.le_refl _) (Obj.cells #[Value.slice M l[k].mem.length c, Value.int IntKind.u64 l[k].frm, Value.int IntKind.u64 l[k].idx, Value.int IntKind.i64 l[k].win, Value.slice V l[k].val.length d] 32)
        exact bodyPost_ret (v := .tuple #[.agg #[.slice M l[k].mem.length c, .int .u64 l[k].frm, .int .u64 l[k].idx, .int .i64 l[k].win, .slice V l[k].val.length d], .bool true]) (by simp [results, Try.results8, go_sem]) rfl ⟨bel, Or.inl ⟨k, hk, M, V, c, d, rfl, hm.later bel, hv.later bel, hf, fun j hj h => HA.out j hj (by omega)⟩⟩
      · go_wp2
        go_round
        case rel => exact ⟨k - 1, by omega, by omega, rfl, fun j hj h => by
          by_cases e : j = k
          · subst e; omega
          · exact HA.out j hj (by omega)⟩
        case measure => simp [intOf]; omega
    · go_wp2
      exact bodyPost_ret (v := .tuple #[.agg #[.slice none 0 0, .int .u64 0, .int .u64 0, .int .i64 0, .slice none 0 0], .bool false]) (by simp [results, Try.results8, go_sem]) rfl ⟨(Below.refl _ _).alloc (Nat.le_refl _) _, Or.inr ⟨rfl, fun j hj => HA.out j hj (by omega)⟩⟩

theorem AtPost.is {l : List MSet} {slot : Int} {w w' : World} {e : Ending} (h : AtPost l slot w e w') (k : Nat) (hk : k < l.length) (h1 : l[k].frm ≤ slot) (h2 : ∀ j (hj : j < l.length), k < j → slot < l[j].frm) :
    Below w.heap.size w w' ∧ ∃ (M V : Option Addr) (c d : Nat), e = .returned (.tuple #[.agg #[.slice M l[k].mem.length c, .int .u64 l[k].frm, .int .u64 l[k].idx, .int .i64 l[k].win, .slice V l[k].val.length d], .bool true]) ∧
      Ints w' .i64 M l[k].mem ∧ Ints w' .u8 V l[k].val := by
  obtain ⟨hb, ⟨k', hk', M, V, c, d, he, hm, hv, hle, hall⟩ | ⟨_, hall⟩⟩ := h
  · have e : k' = k := by
      rcases Nat.lt_trichotomy k' k with h | h | h
      · have := hall k hk h; omega
      · exact h
      · have := h2 k' hk' h; omega
    subst e
    exact ⟨hb, M, V, c, d, he, hm, hv⟩
  · have := hall k hk; omega

theorem AtPost.no {l : List MSet} {slot : Int} {w w' : World} {e : Ending} (h : AtPost l slot w e w') (h1 : ∀ j (hj : j < l.length), slot < l[j].frm) :
    Below w.heap.size w w' ∧ e = .returned (.tuple #[.agg #[.slice none 0 0, .int .u64 0, .int .u64 0, .int .i64 0, .slice none 0 0], .bool false]) := by
  obtain ⟨hb, ⟨k', hk', M, V, c, d, he, hm, hv, hle, hall⟩ | ⟨he, _⟩⟩ := h
  · have := h1 k' hk'; omega
  · exact ⟨hb, he⟩

end Go.Proofs.Qxb6626293a.At
