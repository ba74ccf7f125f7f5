/-
  No cell of these rows narrows 'for every input' (looked for: loops, veiled, ifaces, maps, wideKeys, modest, calm, conditions, laid).
  DERIVED. THE GIVEN ROWS OF THIS SEAT. 2 by the template 'for every input the law returns true; each argument reads behind the call as it read before'; 0 by the template 'total and deterministic' (their statements: Qxb6626293aTotals.lean).
  GIVEN WITH THE SEED: the statements are not yours to turn. If you find one false, say at which input.
  Laid BY PROGRAM, IN A SANDBOX (cutbox-rows.mjs): the forced cells as the released guide's own fill.sh prints them over the translation d731ba5b6837ad1e… (all of the seat's roots in one cut). By AI agents, Wed Nov 11 2026. No macro, syntax, notation, axiom, sorry.
-/
import Derived.Test.Qxb6626293aChecked
import GoSem.Claim
import GoSem.ClaimJoined
import GoSem.ClaimMapViews
import Derived.JoinedTies
import Derived.KernelRfl
namespace Go.Proofs.Qxb6626293a
/- THE CELL 'sum', in the pinned program and in every row, IS THE sha256 OF THE DUMP (.gsa) THAT Qxb6626293aProg.lean LOADS. Nothing in Lean hashes anything: it is a label: what it is worth is what the hold of that sum in a sandbox is worth. -/
noncomputable def Try.pinned : Pinned := { name := "qxb6626293a", sum := "d731ba5b6837ad1e74e9cc9e5debd659a80edeca19e749307a56f48a042b7384", checked := Try.checked }
namespace Rows
def none {H : Type} : Left H := { results := [], args := [] }

/-- 'zzlaws_paxos_b1.FnAtSplitAnyCutAndReach': WHATEVER THE INPUT: true; the input reads as it did. -/
def fnAtSplitAnyCutAndReachSpec : ChangeSpec := { name := "fnAtSplitAnyCutAndReach", fn := fun _ => fun
  | [d1, d2, d3] => { results := [.lit (.bool true)], args := [d1, d2, d3] }
  | _ => none }
def fnAtSplitAnyCutAndReachRow : OpenClaim := { program := "qxb6626293a", sum := "d731ba5b6837ad1e74e9cc9e5debd659a80edeca19e749307a56f48a042b7384", func := "example.com/quorate/quorate/zzlaws_paxos_b1.FnAtSplitAnyCutAndReach", spec := "fnAtSplitAnyCutAndReach", apart := false }
def FnAtSplitAnyCutAndReachSaid : Prop := fnAtSplitAnyCutAndReachRow.holds Try.pinned (OpenSpec.ofChange fnAtSplitAnyCutAndReachSpec)

/-- ITS FALSE NEIGHBOUR: 'it returns false'. Refute it at one input. -/
def fnAtSplitAnyCutAndReachWrong : ChangeSpec := { name := "fnAtSplitAnyCutAndReach", fn := fun _ => fun
  | [d1, d2, d3] => { results := [.lit (.bool false)], args := [d1, d2, d3] }
  | _ => none }
def FnAtSplitAnyCutAndReachWrongFalsely : Prop := fnAtSplitAnyCutAndReachRow.holds Try.pinned (OpenSpec.ofChange fnAtSplitAnyCutAndReachWrong)

/-- 'zzlaws_paxos_b1.FnAtEachSetGovernsFromItsFromToTheNext': WHATEVER THE INPUT: true; the input reads as it did. -/
def fnAtEachSetGovernsFromItsFromToTheNextSpec : ChangeSpec := { name := "fnAtEachSetGovernsFromItsFromToTheNext", fn := fun _ => fun
  | [d1, d2] => { results := [.lit (.bool true)], args := [d1, d2] }
  | _ => none }
def fnAtEachSetGovernsFromItsFromToTheNextRow : OpenClaim := { program := "qxb6626293a", sum := "d731ba5b6837ad1e74e9cc9e5debd659a80edeca19e749307a56f48a042b7384", func := "example.com/quorate/quorate/zzlaws_paxos_b1.FnAtEachSetGovernsFromItsFromToTheNext", spec := "fnAtEachSetGovernsFromItsFromToTheNext", apart := false }
def FnAtEachSetGovernsFromItsFromToTheNextSaid : Prop := fnAtEachSetGovernsFromItsFromToTheNextRow.holds Try.pinned (OpenSpec.ofChange fnAtEachSetGovernsFromItsFromToTheNextSpec)

/-- ITS FALSE NEIGHBOUR: 'it returns false'. Refute it at one input. -/
def fnAtEachSetGovernsFromItsFromToTheNextWrong : ChangeSpec := { name := "fnAtEachSetGovernsFromItsFromToTheNext", fn := fun _ => fun
  | [d1, d2] => { results := [.lit (.bool false)], args := [d1, d2] }
  | _ => none }
def FnAtEachSetGovernsFromItsFromToTheNextWrongFalsely : Prop := fnAtEachSetGovernsFromItsFromToTheNextRow.holds Try.pinned (OpenSpec.ofChange fnAtEachSetGovernsFromItsFromToTheNextWrong)

end Rows
end Go.Proofs.Qxb6626293a
