/-
  No cell of these rows narrows 'for every input' (looked for: loops, veiled, ifaces, maps, wideKeys, modest, calm, conditions, laid).
  DERIVED. THE GIVEN ROWS OF THIS SEAT. 2 by the template 'for every input the law returns true; each argument reads behind the call as it read before'; 0 by the template 'total and deterministic' (their statements: Qxb6626327aTotals.lean).
  GIVEN WITH THE SEED: the statements are not yours to turn. If you find one false, say at which input.
  Laid BY PROGRAM, IN A SANDBOX (cutbox-rows.mjs): the forced cells as the released guide's own fill.sh prints them over the translation 0af6db7c07f210ce… (all of the seat's roots in one cut). By AI agents, Wed Nov 11 2026. No macro, syntax, notation, axiom, sorry.
-/
import Derived.Test.Qxb6626327aChecked
import GoSem.Claim
import GoSem.ClaimJoined
import GoSem.ClaimMapViews
import Derived.JoinedTies
import Derived.KernelRfl
namespace Go.Proofs.Qxb6626327a
/- THE CELL 'sum', in the pinned program and in every row, IS THE sha256 OF THE DUMP (.gsa) THAT Qxb6626327aProg.lean LOADS. Nothing in Lean hashes anything: it is a label: what it is worth is what the hold of that sum in a sandbox is worth. -/
noncomputable def Try.pinned : Pinned := { name := "qxb6626327a", sum := "0af6db7c07f210ce80590d0f3dfe3119939349749d593cf9d329bef629cec151", checked := Try.checked }
namespace Rows
def none {H : Type} : Left H := { results := [], args := [] }

/-- 'zzlaws_internal_metrics_b1.FnObserveCumulativeCounts': WHATEVER THE INPUT: true; the input reads as it did. -/
def fnObserveCumulativeCountsSpec : ChangeSpec := { name := "fnObserveCumulativeCounts", fn := fun _ => fun
  | [d1, d2, d3, d4] => { results := [.lit (.bool true)], args := [d1, d2, d3, d4] }
  | _ => none }
def fnObserveCumulativeCountsRow : OpenClaim := { program := "qxb6626327a", sum := "0af6db7c07f210ce80590d0f3dfe3119939349749d593cf9d329bef629cec151", func := "example.com/dirigent/dirigent/zzlaws_internal_metrics_b1.FnObserveCumulativeCounts", spec := "fnObserveCumulativeCounts", apart := false }
def FnObserveCumulativeCountsSaid : Prop := fnObserveCumulativeCountsRow.holds Try.pinned (OpenSpec.ofChange fnObserveCumulativeCountsSpec)

/-- ITS FALSE NEIGHBOUR: 'it returns false'. Refute it at one input. -/
def fnObserveCumulativeCountsWrong : ChangeSpec := { name := "fnObserveCumulativeCounts", fn := fun _ => fun
  | [d1, d2, d3, d4] => { results := [.lit (.bool false)], args := [d1, d2, d3, d4] }
  | _ => none }
def FnObserveCumulativeCountsWrongFalsely : Prop := fnObserveCumulativeCountsRow.holds Try.pinned (OpenSpec.ofChange fnObserveCumulativeCountsWrong)

/-- 'zzlaws_internal_metrics_b1.FnObserveSplitStreamsAdd': WHATEVER THE INPUT: true; the input reads as it did. -/
def fnObserveSplitStreamsAddSpec : ChangeSpec := { name := "fnObserveSplitStreamsAdd", fn := fun _ => fun
  | [d1, d2, d3, d4, d5] => { results := [.lit (.bool true)], args := [d1, d2, d3, d4, d5] }
  | _ => none }
def fnObserveSplitStreamsAddRow : OpenClaim := { program := "qxb6626327a", sum := "0af6db7c07f210ce80590d0f3dfe3119939349749d593cf9d329bef629cec151", func := "example.com/dirigent/dirigent/zzlaws_internal_metrics_b1.FnObserveSplitStreamsAdd", spec := "fnObserveSplitStreamsAdd", apart := false }
def FnObserveSplitStreamsAddSaid : Prop := fnObserveSplitStreamsAddRow.holds Try.pinned (OpenSpec.ofChange fnObserveSplitStreamsAddSpec)

/-- ITS FALSE NEIGHBOUR: 'it returns false'. Refute it at one input. -/
def fnObserveSplitStreamsAddWrong : ChangeSpec := { name := "fnObserveSplitStreamsAdd", fn := fun _ => fun
  | [d1, d2, d3, d4, d5] => { results := [.lit (.bool false)], args := [d1, d2, d3, d4, d5] }
  | _ => none }
def FnObserveSplitStreamsAddWrongFalsely : Prop := fnObserveSplitStreamsAddRow.holds Try.pinned (OpenSpec.ofChange fnObserveSplitStreamsAddWrong)

end Rows
end Go.Proofs.Qxb6626327a
