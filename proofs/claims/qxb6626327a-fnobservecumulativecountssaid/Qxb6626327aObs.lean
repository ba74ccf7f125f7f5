import Derived.Test.Qxb6626327aSmall
namespace Go.Proofs.Qxb6626327a.Obs
open Go.RowKit Plain Mem Small
set_option linter.unusedVariables false
attribute [local go_sem] run_store_float

/-- What one observation leaves: the count of its bucket one up, the sum gone on; nothing else has turned. -/
def Observed (hb cb : Nat) (BA : Option Addr) (bc : Nat) (bs : List Nat) (n : Nat) (C : Nat → Int) (s v : Nat) (w : World) (e : Ending) (w' : World) : Prop :=
  (∃ x, e = .returned x) ∧ (∃ r, FAdd s v r ∧ Hist w' hb cb BA bc bs n (fun j => if j = idx v bs then IntKind.u64.wrap (C (idx v bs) + 1) else C j) r) ∧ w'.heap.size = w.heap.size ∧ ∀ N, N ≤ hb → N ≤ cb → Below N w w'

theorem fin {w : World} {hb cb : Nat} {BA : Option Addr} {bc : Nat} {bs : List Nat} {n : Nat} {C : Nat → Int} {s v : Nat} (h : Hist w hb cb BA bc bs n C s) {k : Nat} (hbn : bs.length < n) (hi : idx v bs = k) {r : Nat} (hf : FAdd s v r) (x : Value) :
    Observed hb cb BA bc bs n C s v w (.returned x) ((w.setCell ⟨cb, k, none⟩ (.int .u64 (IntKind.u64.wrap (C k + 1)))).setCell ⟨hb, 2, none⟩ (.float .f64 r)) := by
  subst hi
  refine ⟨⟨x, rfl⟩, ⟨r, hf, h.step _ (by have := idx_le v bs; omega) _ r⟩, by simp [World.setCell], fun N h1 h2 => ((Below.refl _ _).setCell h2 _).setCell h1 _⟩

theorem finD {w : World} {hb cb : Nat} {BA : Option Addr} {bc : Nat} {bs : List Nat} {n : Nat} {C : Nat → Int} {s v : Nat} (h : Hist w hb cb BA bc bs n C s) {k : Nat} (hbn : bs.length < n) (hi : idx v bs = k) {r : Nat} (hf : FAdd s v r) (x : Value) :
    Observed hb cb BA bc bs n C s v w (.returned x) ((w.setCell ⟨cb, k, none⟩ (.int .u64 (IntKind.u64.wrap (C k + 1)))).setCell ⟨hb, 2, none⟩ (.float .f64 r)).drew := by
  obtain ⟨h1, h2, h3, h4⟩ := fin h hbn hi hf x
  exact ⟨h1, h2, h3, fun N a b => (h4 N a b).drew⟩

set_option maxHeartbeats 2000000 in
theorem observe_any {w : World} {hb cb : Nat} {BA : Option Addr} {bc : Nat} {bs : List Nat} {n : Nat} {C : Nat → Int} {s : Nat} (v : Nat) (h : Hist w hb cb BA bc bs n C s) (hn : bs.length ≤ 1048576) (hbn : bs.length < n) :
    Calls Try.prog 10 #[.pointer (some ⟨hb, 0, none⟩), .float .f64 v] w (Observed hb cb BA bc bs n C s v w) := by
  have HH : Hid (Hist w hb cb BA bc bs n C s) := h
  have f0 : w.cell? ⟨hb, 0, none⟩ = some (.slice BA bs.length bc) := h.1.cell (i := 0) (by omega)
  have f1 : w.cell? ⟨hb, 1, none⟩ = some (.slice (some ⟨cb, 0, none⟩) n n) := h.1.cell (i := 1) (by omega)
  have f2 : w.cell? ⟨hb, 2, none⟩ = some (.float .f64 s) := h.1.cell (i := 2) (by omega)
  have fz : w.frozen? ⟨hb, 2, none⟩ = false := h.1.frozen 2
  have hne : hb ≠ cb := h.2.2.2.1
  have hne' : cb ≠ hb := fun e => hne e.symm
  clear h
  go_enter Try.func10, Try.ntmps10
  go_wp2
  go_loop [4] (fun i => ∃ k : Nat, k ≤ bs.length ∧ i = .int .i64 k ∧ ∀ j, j < k → gtB v (bs.getD j 0) = true) (fun i => bs.length - (intOf i).toNat)
  case atStart => exact ⟨0, Nat.zero_le _, rfl, fun j hj => absurd hj (Nat.not_lt_zero _)⟩
  case round =>
    obtain ⟨k, hle, rfl, hall⟩ := hrel
    have HA : Hid (∀ j, j < k → gtB v (bs.getD j 0) = true) := hall
    clear hall
    have b1 : (k : Int) ≤ (bs.length : Int) := by omega
    by_cases hc : k < bs.length ∧ gtB v (bs.getD k 0) = true
    · obtain ⟨hlt, hg⟩ := hc
      obtain ⟨b, off, rfl, hcell⟩ := HH.out.2.2.1.at (by omega)
      obtain ⟨x, hx⟩ : ∃ x, bs.getD k 0 = x := ⟨_, rfl⟩
      have g1 : w.cell? ⟨b, off + k, none⟩ = some (.float .f64 x) := by rw [← hx]; exact hcell k hlt
      have HG : Hid (gtB v (bs.getD k 0) = true) := hg
      rw [hx] at hg
      unfold gtB at hg
      clear hx hcell
      go_wp2
      go_round
      case rel => exact ⟨k + 1, hlt, by go_num, fun j hj => by
        by_cases e : j = k
        · subst e; exact HG.out
        · exact HA.out j (by omega)⟩
      case measure => simp [intOf]; omega
    · have HI : Hid (idx v bs = k) := idx_is v bs k hle HA.out (fun h => by simpa using fun hh => hc ⟨h, hh⟩)
      have g3 : w.cell? ⟨cb, k, none⟩ = some (.int .u64 (C k)) := HH.out.2.1.cell (by omega)
      have fz3 : w.frozen? ⟨cb, k, none⟩ = false := HH.out.2.1.frozen k
      have b2 : (k : Int) < (n : Int) := by omega
      cases ha : FloatKind.f64.format.add s v with
      | some r =>
        have hadd := fun w => add_some (P := Try.prog) 24 ha w
        have HF : Hid (FAdd s v r) := Or.inl ha
        clear ha
        by_cases hlt : k < bs.length
        · have hg : gtB v (bs.getD k 0) = false := by simpa using fun hh => hc ⟨hlt, hh⟩
          obtain ⟨b, off, rfl, hcell⟩ := HH.out.2.2.1.at (by omega)
          obtain ⟨x, hx⟩ : ∃ x, bs.getD k 0 = x := ⟨_, rfl⟩
          have g1 : w.cell? ⟨b, off + k, none⟩ = some (.float .f64 x) := by rw [← hx]; exact hcell k hlt
          rw [hx] at hg
          unfold gtB at hg
          clear hx hcell hc
          go_wp2
          go_end0
          exact fin HH.out hbn HI.out HF.out _
        · clear hc
          go_wp2
          go_end0
          exact fin HH.out hbn HI.out HF.out _
      | none =>
        have hadd := fun w => add_none (P := Try.prog) 24 ha w
        have HF : Hid (∀ v', nan v' → FAdd s v v') := fun v' hv => Or.inr ⟨ha, hv⟩
        clear ha
        by_cases hlt : k < bs.length
        · have hg : gtB v (bs.getD k 0) = false := by simpa using fun hh => hc ⟨hlt, hh⟩
          obtain ⟨b, off, rfl, hcell⟩ := HH.out.2.2.1.at (by omega)
          obtain ⟨x, hx⟩ : ∃ x, bs.getD k 0 = x := ⟨_, rfl⟩
          have g1 : w.cell? ⟨b, off + k, none⟩ = some (.float .f64 x) := by rw [← hx]; exact hcell k hlt
          rw [hx] at hg
          unfold gtB at hg
          clear hx hcell hc
          go_wp2
          go_end0
          exact finD HH.out hbn HI.out (HF.out _ (nan_cut _ _ _)) _
        · clear hc
          go_wp2
          go_end0
          exact finD HH.out hbn HI.out (HF.out _ (nan_cut _ _ _)) _

end Go.Proofs.Qxb6626327a.Obs
