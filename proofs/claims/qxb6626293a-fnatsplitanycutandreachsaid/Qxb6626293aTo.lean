import Derived.Test.Qxb6626293aCopy
import Derived.Test.Qxb6626293aMem2
import Derived.Deep.RegionHeld3
namespace Go.Proofs.Qxb6626293a.To
open Go.RowKit Mem
set_option linter.unusedVariables false

theorem info32 : (Try.prog.info? 32).map (fun i => (i.zero, i.size, i.bytes)) = some (some (.agg #[.slice none 0 0, .int .u64 0, .int .u64 0, .int .i64 0, .slice none 0 0]), 5, 72) := by kernel_rfl

theorem make_any (n : Nat) (hn : n ≤ 16384) (w : World) :
    (Instr.makeSlice 27 (.int .i64 (n : Int)) (.int .i64 (n : Int))).run Try.prog w = .ok (.slice (some ⟨w.heap.size, 0, none⟩) n n) (w.alloc (.cells (madeCells #[.slice none 0 0, .int .u64 0, .int .u64 0, .int .i64 0, .slice none 0 0] (n * 5)) 32)) := by
  obtain ⟨i, hi, hzz⟩ := Option.map_eq_some_iff.1 info32
  simp only [Prod.mk.injEq] at hzz
  obtain ⟨hz, hs, hb⟩ := hzz
  have hr := run_make (P := Try.prog) w 27 32 i _ Try.underlying27 hi hz .i64 .i64 n n (by omega) (Int.le_refl _) (by rw [hb]; omega) (by omega)
  simp only [Int.toNat_natCast, hs] at hr
  exact hr

theorem rowOf (w : World) (c : Array Value) (t : TypeId) : ∃ f, (w.alloc (.cells c t)).rowIs w.heap.size t c.size f :=
  ⟨fun i => c.getD i undef, World.rowIs_alloc w c t _ (fun i hi => by simp [Array.getD, hi])⟩

theorem rowLater {w w' : World} {N t m : Nat} {f : Nat → Value} (h : w.rowIs N t m f) (hb : Below w.heap.size w w') : w'.rowIs N t m f := h.of_block (hb.block _ h.lt)

/-- The five cells of element n of a row of 5 * len: there, and not frozen. -/
theorem rowFive {w : World} {N t len n : Nat} {f : Nat → Value} (h : w.rowIs N t (len * 5) f) (hn : n < len) :
    w.cell? ⟨N, n * 5, none⟩ = some (f (n * 5)) ∧ w.cell? ⟨N, n * 5 + 1, none⟩ = some (f (n * 5 + 1)) ∧ w.cell? ⟨N, n * 5 + 2, none⟩ = some (f (n * 5 + 2)) ∧ w.cell? ⟨N, n * 5 + 3, none⟩ = some (f (n * 5 + 3)) ∧ w.cell? ⟨N, n * 5 + 4, none⟩ = some (f (n * 5 + 4)) ∧
    w.frozen? ⟨N, n * 5, none⟩ = false ∧ w.frozen? ⟨N, n * 5 + 1, none⟩ = false ∧ w.frozen? ⟨N, n * 5 + 2, none⟩ = false ∧ w.frozen? ⟨N, n * 5 + 3, none⟩ = false ∧ w.frozen? ⟨N, n * 5 + 4, none⟩ = false :=
  ⟨h.cell (by omega), h.cell (by omega), h.cell (by omega), h.cell (by omega), h.cell (by omega), h.frozen _, h.frozen _, h.frozen _, h.frozen _, h.frozen _⟩

set_option maxHeartbeats 4000000 in
theorem to_any (A : Option Addr) (l : List MSet) (cap : Nat) (w : World) (hz : Sets w A l) (hn : l.length ≤ 16384) (hs : ∀ j (hj : j < l.length), l[j].mem.length ≤ 1048576 ∧ l[j].val.length ≤ 1048576) :
    Calls Try.prog 7 #[.slice A l.length cap] w fun e w' => e = .returned (.slice (some ⟨w.heap.size, 0, none⟩) l.length l.length) ∧ Sets w' (some ⟨w.heap.size, 0, none⟩) l ∧ Below w.heap.size w w' := by
  have HZ : Hid (Sets w A l) := hz
  have HS : Hid (∀ j (hj : j < l.length), l[j].mem.length ≤ 1048576 ∧ l[j].val.length ≤ 1048576) := hs
  clear hz hs
  have hmk := make_any l.length hn
  go_enter Try.func7, Try.ntmps7
  go_wp2
  clear hmk
  go_loopw [4] (fun i wr => ∃ n : Nat, n ≤ l.length ∧ i = .int .i64 n ∧ Below w.heap.size w wr ∧ (∃ f, wr.rowIs w.heap.size 32 (l.length * 5) f) ∧ ∀ i (hi : i < l.length), i < n → NewAt wr w.heap.size (i * 5) l[i]) (fun i _ => l.length - (intOf i).toNat)
  case atStart =>
    refine ⟨0, Nat.zero_le _, rfl, (Below.refl _ _).alloc (Nat.le_refl _) _, ?_, fun i _ hi => absurd hi (Nat.not_lt_zero _)⟩
    have h := rowOf w (madeCells #[.slice none 0 0, .int .u64 0, .int .u64 0, .int .i64 0, .slice none 0 0] (l.length * 5)) 32
    rwa [size_madeCells] at h
  case round =>
    obtain ⟨n, hle, rfl, hbel, ⟨f, hrow⟩, hnew⟩ := hrel
    by_cases hlt : n < l.length
    · obtain ⟨b, off, rfl, hc⟩ : ∃ b off, A = some ⟨b, off, none⟩ ∧ ∀ i (hi : i < l.length), SetAt w b (off + i * 5) l[i] := by
        rcases HZ.out with h | h
        · have : l.length = 0 := by rw [h]; rfl
          omega
        · exact h
      obtain ⟨M, V, c, d, c0, c1, c2, c3, c4, hm, hv⟩ := hc n hlt
      have hbk : b < w.heap.size := World.block_lt_of_cell? _ _ c0
      have hne : w.heap.size ≠ b := by omega
      have c0' := cellLater c0 hbel
      have c1' := cellLater c1 hbel
      have c2' := cellLater c2 hbel
      have c3' := cellLater c3 hbel
      have c4' := cellLater c4 hbel
      have HM : Hid (Ints wr .i64 M l[n].mem) := hm.later hbel
      have HV : Hid (Ints wr .u8 V l[n].val) := hv.later hbel
      have HB : Hid (Below w.heap.size w wr) := hbel
      have HR : Hid (wr.rowIs w.heap.size 32 (l.length * 5) f) := hrow
      have HW : Hid (∀ i (hi : i < l.length), i < n → NewAt wr w.heap.size (i * 5) l[i]) := hnew
      have b0 : (0 : Int) ≤ (n : Int) := by omega
      have b1 : ((n : Int)) < (l.length : Int) := by omega
      clear hc c0 c1 c2 c3 c4 hm hv hbel hrow hnew
      go_wp2
      go_region_held3 (fun w' => w'.cell? ⟨b, off + n * 5, none⟩ = some (.slice M l[n].mem.length c) ∧ w'.cell? ⟨b, off + n * 5 + 1, none⟩ = some (.int .u64 l[n].frm) ∧ w'.cell? ⟨b, off + n * 5 + 2, none⟩ = some (.int .u64 l[n].idx) ∧ w'.cell? ⟨b, off + n * 5 + 3, none⟩ = some (.int .i64 l[n].win) ∧ w'.cell? ⟨b, off + n * 5 + 4, none⟩ = some (.slice V l[n].val.length d)) (go_keep)
        (first
          | (go_at_call 13; refine (Copy.copyInts_any M l[n].mem c _ ?_ ?_).mono ?_; (exact HM.out.later (Below.refl _ _).drew); (exact (HS.out n hlt).1); rintro e w1 ⟨A1, cap1, rfl, hI1, hb1, hf1⟩; have B1 : Below wr.heap.size wr w1 := (Below.refl _ _).drew.trans hb1; have k1 := And.intro (cellLater c0' B1) (And.intro (cellLater c1' B1) (And.intro (cellLater c2' B1) (And.intro (cellLater c3' B1) (cellLater c4' B1)))))
          | (go_at_call 14; refine (Copy.copyBytes_any V l[n].val d _ ?_ ?_).mono ?_; (exact HV.out.later ((Below.refl _ _).drew.trans hb1)); (exact (HS.out n hlt).2); rintro e w2 ⟨A2, cap2, rfl, hI2, hb2, hf2⟩; have B2 : Below wr.heap.size wr w2 := B1.trans (hb2.mono B1.size); have k2 := And.intro (cellLater c0' B2) (And.intro (cellLater c1' B2) (And.intro (cellLater c2' B2) (And.intro (cellLater c3' B2) (cellLater c4' B2)))); obtain ⟨g0, g1, g2, g3, g4, q0, q1, q2, q3, q4⟩ := rowFive (rowLater HR.out B2) hlt))
      obtain ⟨rg, rn⟩ := newStep (rowLater HR.out B2) hlt (fun i hi h => (HW.out i hi h).later B2) cap1 cap2 (hI1.later hb2) hI2 (fun a h => Nat.lt_of_lt_of_le (show w.heap.size < wr.heap.size from HR.out.lt) (hf1 a h)) (fun a h => Nat.lt_of_lt_of_le (Nat.lt_of_lt_of_le (show w.heap.size < wr.heap.size from HR.out.lt) B1.size) (hf2 a h))
      have HG := And.intro rg rn
      have HG' : Hid _ := HG
      clear HG rg rn k1 k2 g0 g1 g2 g3 g4 q0 q1 q2 q3 q4
      have HBB : Hid (Below w.heap.size w w2) := HB.out.trans (B2.mono HB.out.size)
      clear B1 B2 hb1 hb2 hf1 hf2 hI1 hI2
      go_wp2
      go_roundw
      case rel => exact ⟨n + 1, hlt, by go_num, ((((HBB.out.setCell (Nat.le_refl _) _).setCell (Nat.le_refl _) _).setCell (Nat.le_refl _) _).setCell (Nat.le_refl _) _).setCell (Nat.le_refl _) _, HG'.out.1, HG'.out.2⟩
      case measure => simp [intOf]; omega
    · go_wp2
      go_ret
      have hnn : n = l.length := by omega
      subst hnn
      exact ⟨rfl, Or.inr ⟨_, 0, rfl, fun i hi => by rw [Nat.zero_add]; exact (hnew i hi hi).toSet⟩, hbel⟩

end Go.Proofs.Qxb6626293a.To
