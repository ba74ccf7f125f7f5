/-
  The proof of 'Rows.FnAssignOpRanksTheElevenCompoundOpsSaid'. The frame was written by the kit's shell tool for this program; the walk is ours.
-/
import Derived.Test.Qxb6626231aTok
import Derived.WalkKit
import Derived.ProofKit
import Derived.OpenShut
import Derived.ShutString
namespace Go.Proofs.Qxb6626231a.fnAssignOpRanksTheElevenCompoundOps
open Go.ChangeShapes Go.WideShapes Go.ChangeAt Go.RowKit
open Go.ChangeMaps (open_string shut_string)
set_option linter.unusedVariables false      -- a walk need not use every 'w<i>' (that an integer argument fits its kind)

theorem own : ownKnob Try.prog.godebug = none := by kernel_rfl

/-! ### STEP 1: THE WALK: the Go text returns true. 'Grown w w'': the world has at most new blocks (Derived/RowKit3.lean). -/
/-- The loop's relation at the head of round k: n accepted so far, r the rank of a, l the last accepted. -/
def Rel (a k n r l : Int) : Prop :=
  0 ≤ k ∧ k ≤ 256 ∧ 0 ≤ n ∧ n ≤ 11 ∧ -1 ≤ r ∧ r ≤ 10 ∧ -1 ≤ l ∧ l ≤ 28 ∧
  (k ≤ 18 → n = 0 ∧ l = -1) ∧ (18 < k → k ≤ 29 → n = k - 18 ∧ l = k - 1) ∧ (29 < k → n = 11 ∧ l = 28) ∧
  (18 ≤ a ∧ a ≤ 28 ∧ a < k → r = a - 18) ∧ (¬ (18 ≤ a ∧ a ≤ 28 ∧ a < k) → r = -1)

theorem ret_bool {a : Bool} (h : a = true) : Ending.returned (.bool a) = .returned (.bool true) := by rw [h]

theorem op_out (a : Int) (h0 : 0 ≤ a) (h1 : a ≤ 255) (h : a < 18 ∨ 28 < a) (w : World) :
    Calls Try.prog 5 #[.int .u8 a] w fun e w' => e = .returned (.tuple #[.int .u8 0, .bool false]) ∧ w' = w := by
  rcases h with h | h
  · exact Tok.op_below a h0 h w
  · exact Tok.op_above a h h1 w

set_option maxHeartbeats 1000000 in
theorem walk (a0 : Int) (w0 : (Lit.int .u8 a0).wf = true) (w : World) :
    Calls Try.prog 4 #[.int .u8 a0] w fun e w' => e = .returned (.bool true) ∧ Grown w w' := by
  have hb := bounds_u8 w0
  obtain ⟨b0, b1⟩ := hb
  clear w0
  by_cases hin : 18 ≤ a0 ∧ a0 ≤ 28
  · obtain ⟨i1, i2⟩ := hin
    go_enter Try.func4, Try.ntmps4
    go_wp2_with (go_at_call 5; refine (Tok.op_in _ (by omega) (by omega) _).mono ?_; rintro e w' ⟨rfl, rfl⟩)
    go_loop [5, 6, 7, 8] (fun n r l i => ∃ k n' r' l' : Int, Rel a0 k n' r' l' ∧ i = .int .i64 k ∧ n = .int .i64 n' ∧ r = .int .i64 r' ∧ l = .int .i64 l') (fun _ _ _ i => (256 - intOf i).toNat)
    case atStart => exact ⟨0, 0, -1, -1, by unfold Rel; omega, rfl, rfl, rfl, rfl⟩
    case round =>
      obtain ⟨k, n, r, l, hR, rfl, rfl, rfl, rfl⟩ := hrel
      have HR : Hid (Rel a0 k n r l) := hR
      unfold Rel at hR
      have k0 : 0 ≤ k := hR.1
      have k1 : k ≤ 256 := hR.2.1
      by_cases c0 : k < 256
      · by_cases c1 : k < 18
        · clear hR
          go_wp2_with (go_at_call 5; refine (Tok.op_below _ (by omega) (by omega) _).mono ?_; rintro e w' ⟨rfl, rfl⟩)
          go_round
          case rel => exact ⟨k + 1, n, r, l, by have := HR.out; unfold Rel at *; omega, rfl, rfl, rfl, rfl⟩
          case measure => simp [intOf]; omega
        · by_cases c2 : 28 < k
          · clear hR
            go_wp2_with (go_at_call 5; refine (Tok.op_above _ (by omega) (by omega) _).mono ?_; rintro e w' ⟨rfl, rfl⟩)
            go_round
            case rel => exact ⟨k + 1, n, r, l, by have := HR.out; unfold Rel at *; omega, rfl, rfl, rfl, rfl⟩
            case measure => simp [intOf]; omega
          · obtain rfl : n = k - 18 := by omega
            have r0 : -1 ≤ r := by omega
            have r1 : r ≤ 10 := by omega
            have l0 : -1 ≤ l := by omega
            have l1 : l ≤ 28 := by omega
            have c1' : 18 ≤ k := by omega
            have c2' : k ≤ 28 := by omega
            have hl : l < 0 ∨ (0 ≤ l ∧ l = k - 1) := by omega
            clear hR
            rcases hl with hl | ⟨hl, rfl⟩
            all_goals
              by_cases ca : k = a0
              · subst ca
                go_wp2_with (go_at_call 5; refine (Tok.op_in _ (by omega) (by omega) _).mono ?_; rintro e w' ⟨rfl, rfl⟩)
                go_round
                case rel => exact ⟨k + 1, _, _, _, by have := HR.out; unfold Rel at *; omega, rfl, rfl, rfl, rfl⟩
                case measure => simp [intOf]; omega
              · have ca' : (k == a0) = false := by simpa using ca
                go_wp2_with (go_at_call 5; refine (Tok.op_in _ (by omega) (by omega) _).mono ?_; rintro e w' ⟨rfl, rfl⟩)
                go_round
                case rel => exact ⟨k + 1, _, _, _, by have := HR.out; unfold Rel at *; omega, rfl, rfl, rfl, rfl⟩
                case measure => simp [intOf]; omega
      · obtain rfl : n = 11 := by omega
        obtain rfl : r = a0 - 18 := by omega
        clear hR HR
        go_wp2
        go_ret
        exact ⟨ret_bool (by rw [show (7 : Int) + (a0 - 18) = a0 - 11 from by omega]; simp), Grown.refl _⟩
  · have ha : a0 < 18 ∨ 28 < a0 := by omega
    clear hin
    go_enter Try.func4, Try.ntmps4
    go_wp2_with (go_at_call 5; refine (op_out _ (by omega) (by omega) (by omega) _).mono ?_; rintro e w' ⟨rfl, rfl⟩)
    go_loop [5, 6, 7, 8] (fun n r l i => ∃ k n' r' l' : Int, Rel a0 k n' r' l' ∧ i = .int .i64 k ∧ n = .int .i64 n' ∧ r = .int .i64 r' ∧ l = .int .i64 l') (fun _ _ _ i => (256 - intOf i).toNat)
    case atStart => exact ⟨0, 0, -1, -1, by unfold Rel; omega, rfl, rfl, rfl, rfl⟩
    case round =>
      obtain ⟨k, n, r, l, hR, rfl, rfl, rfl, rfl⟩ := hrel
      have HR : Hid (Rel a0 k n r l) := hR
      unfold Rel at hR
      have k0 : 0 ≤ k := hR.1
      have k1 : k ≤ 256 := hR.2.1
      by_cases c0 : k < 256
      · by_cases c1 : k < 18
        · clear hR
          go_wp2_with (go_at_call 5; refine (Tok.op_below _ (by omega) (by omega) _).mono ?_; rintro e w' ⟨rfl, rfl⟩)
          go_round
          case rel => exact ⟨k + 1, n, r, l, by have := HR.out; unfold Rel at *; omega, rfl, rfl, rfl, rfl⟩
          case measure => simp [intOf]; omega
        · by_cases c2 : 28 < k
          · clear hR
            go_wp2_with (go_at_call 5; refine (Tok.op_above _ (by omega) (by omega) _).mono ?_; rintro e w' ⟨rfl, rfl⟩)
            go_round
            case rel => exact ⟨k + 1, n, r, l, by have := HR.out; unfold Rel at *; omega, rfl, rfl, rfl, rfl⟩
            case measure => simp [intOf]; omega
          · obtain rfl : n = k - 18 := by omega
            have r0 : -1 ≤ r := by omega
            have r1 : r ≤ 10 := by omega
            have l0 : -1 ≤ l := by omega
            have l1 : l ≤ 28 := by omega
            have c1' : 18 ≤ k := by omega
            have c2' : k ≤ 28 := by omega
            have hl : l < 0 ∨ (0 ≤ l ∧ l = k - 1) := by omega
            clear hR
            rcases hl with hl | ⟨hl, rfl⟩
            all_goals
              by_cases ca : k = a0
              · exact absurd ca (by omega)
              · have ca' : (k == a0) = false := by simpa using ca
                go_wp2_with (go_at_call 5; refine (Tok.op_in _ (by omega) (by omega) _).mono ?_; rintro e w' ⟨rfl, rfl⟩)
                go_round
                case rel => exact ⟨k + 1, _, _, _, by have := HR.out; unfold Rel at *; omega, rfl, rfl, rfl, rfl⟩
                case measure => simp [intOf]; omega
      · obtain rfl : n = 11 := by omega
        obtain rfl : r = -1 := by omega
        clear hR HR
        go_wp2
        go_ret
        exact ⟨rfl, Grown.refl _⟩

/-! ### THE ROW's STEP: WRITTEN OUT: LEAVE IT -/
set_option maxRecDepth 100000 in
theorem lifted (os : Os) (started : os.Started) (H : Type) (enc : TypeId × Value → H) :
    ReturnsInHanded {} Try.checked os 4 .any (Rows.fnAssignOpRanksTheElevenCompoundOpsSpec.pre6 enc Try.prog Try.f4 Rows.fnAssignOpRanksTheElevenCompoundOpsRow.domain false) (Rows.fnAssignOpRanksTheElevenCompoundOpsSpec.post enc Try.prog Try.f4 false true false false) := by
  refine returnsInHanded_of_change (C := Try.checked) own started (by kernel_rfl) Try.func4
    (ChangeSpec.witness6 (enc := enc) (C := Try.checked) false ⟨#[], #[.int .u8 0], []⟩ 8 (by kernel_rfl) (by kernel_rfl) (by kernel_rfl) (by kernel_rfl)) ?_
  intro W base args ds gs before hval0 hW hcnd _
  have hval : ∀ (j : Nat) t v, Try.f4.params[j]? = some t → args[j]? = some v → Value.okWide Try.prog W .any base t v := hval0
  have hW' := hW
  obtain ⟨p, q, hA0, hV, rfl, hfz, hnd⟩ := hW
  have hA : DataW.TrodAll enc Try.prog W 0 (fun _ => true) true Try.f4.params.toList args.toList ds p := hA0
  rw [Try.params4] at hA hval
  obtain ⟨v0, vs0, d0, ds0, p0, q0, hargs, rfl, rfl, h0, r0⟩ := trodAll_cons hA
  obtain ⟨rfl, rfl, rfl⟩ := trodAll_nil r0
  obtain rfl : args = #[v0] := by cases args; simp_all
  obtain ⟨rfl, rfl⟩ := trodVars_none hV
  obtain ⟨a0, rfl, rfl, rfl, w0⟩ := open_int Try.underlying22 (hval 0 22 v0 rfl rfl) h0
  clear hA0 hval0
  simp only [List.append_nil] at hW'
  refine (walk a0 w0 W).mono fun e W' ⟨he, hg⟩ => ?_
  subst he
  exact ⟨_, rfl, post_of_same (pa := []) (pv := []) hW' (fun _ _ _ => (trodAll_cons_mk (shut_bool Try.underlying4 _) trodAll_mk0)) (fun sp _ => (trodAll_cons_mk (shut_int Try.underlying22 w0) trodAll_mk0)) (fun _ _ => rfl) rfl
    (hg.frame _) hg.2.1 (ok_one (by kernel_rfl) rfl (okWide_bool_mk Try.underlying4 _))⟩

theorem over : Rows.fnAssignOpRanksTheElevenCompoundOpsRow.holds Try.pinned (OpenSpec.ofChange Rows.fnAssignOpRanksTheElevenCompoundOpsSpec) :=
  OpenClaim.holds_of_wide 4 Try.f4 rfl rfl rfl rfl rfl rfl rfl ⟨rfl, rfl, rfl, rfl, rfl⟩ rfl rfl rfl rfl rfl (by kernel_rfl) Try.func4 (by kernel_rfl)
    (of_decide_eq_true (by kernel_rfl)) (by unfold Func.isWrapper; first | (rw [if_pos (by decide +kernel)]; kernel_rfl) | (rw [if_neg (by decide +kernel)]; exact ⟨rfl, rfl⟩))
    (fun os started H enc _ => lifted os started H enc)

/-- ████ THE STATEMENT ████ -/
theorem proved : Rows.FnAssignOpRanksTheElevenCompoundOpsSaid :=
  over
#print axioms proved
end Go.Proofs.Qxb6626231a.fnAssignOpRanksTheElevenCompoundOps
