/-
  No cell of these rows narrows 'for every input' (looked for: loops, veiled, ifaces, maps, wideKeys, modest, calm, conditions, laid).
  DERIVED. THE GIVEN ROWS OF THIS SEAT. 2 by the template 'for every input the law returns true; each argument reads behind the call as it read before'; 0 by the template 'total and deterministic' (their statements: Qxb6626231aTotals.lean).
  GIVEN WITH THE SEED: the statements are not yours to turn. If you find one false, say at which input.
  Laid BY PROGRAM, IN A SANDBOX (cutbox-rows.mjs): the forced cells as the released guide's own fill.sh prints them over the translation 1e34c57cccc214e0… (all of the seat's roots in one cut). By AI agents, Wed Nov 11 2026. No macro, syntax, notation, axiom, sorry.
-/
import Derived.Test.Qxb6626231aChecked
import GoSem.Claim
import GoSem.ClaimJoined
import GoSem.ClaimMapViews
import Derived.JoinedTies
import Derived.KernelRfl
namespace Go.Proofs.Qxb6626231a
/- THE CELL 'sum', in the pinned program and in every row, IS THE sha256 OF THE DUMP (.gsa) THAT Qxb6626231aProg.lean LOADS. Nothing in Lean hashes anything: it is a label: what it is worth is what the hold of that sum in a sandbox is worth. -/
noncomputable def Try.pinned : Pinned := { name := "qxb6626231a", sum := "1e34c57cccc214e04018fe3af4795eb0107114f9c154b5c7b9dd19a59b72617b", checked := Try.checked }
namespace Rows
def none {H : Type} : Left H := { results := [], args := [] }

/-- 'zzlaws_internal_syntax_b1.FnAssignOpIsTheOperatorSpelledBeforeTheEquals': WHATEVER THE INPUT: true; the input reads as it did. -/
def fnAssignOpIsTheOperatorSpelledBeforeTheEqualsSpec : ChangeSpec := { name := "fnAssignOpIsTheOperatorSpelledBeforeTheEquals", fn := fun _ => fun
  | [d] => { results := [.lit (.bool true)], args := [d] }
  | _ => none }
def fnAssignOpIsTheOperatorSpelledBeforeTheEqualsRow : OpenClaim := { program := "qxb6626231a", sum := "1e34c57cccc214e04018fe3af4795eb0107114f9c154b5c7b9dd19a59b72617b", func := "example.com/marrow/marrow/zzlaws_internal_syntax_b1.FnAssignOpIsTheOperatorSpelledBeforeTheEquals", spec := "fnAssignOpIsTheOperatorSpelledBeforeTheEquals", apart := false }
def FnAssignOpIsTheOperatorSpelledBeforeTheEqualsSaid : Prop := fnAssignOpIsTheOperatorSpelledBeforeTheEqualsRow.holds Try.pinned (OpenSpec.ofChange fnAssignOpIsTheOperatorSpelledBeforeTheEqualsSpec)

/-- ITS FALSE NEIGHBOUR: 'it returns false'. Refute it at one input. -/
def fnAssignOpIsTheOperatorSpelledBeforeTheEqualsWrong : ChangeSpec := { name := "fnAssignOpIsTheOperatorSpelledBeforeTheEquals", fn := fun _ => fun
  | [d] => { results := [.lit (.bool false)], args := [d] }
  | _ => none }
def FnAssignOpIsTheOperatorSpelledBeforeTheEqualsWrongFalsely : Prop := fnAssignOpIsTheOperatorSpelledBeforeTheEqualsRow.holds Try.pinned (OpenSpec.ofChange fnAssignOpIsTheOperatorSpelledBeforeTheEqualsWrong)

/-- 'zzlaws_internal_syntax_b1.FnAssignOpRanksTheElevenCompoundOps': WHATEVER THE INPUT: true; the input reads as it did. -/
def fnAssignOpRanksTheElevenCompoundOpsSpec : ChangeSpec := { name := "fnAssignOpRanksTheElevenCompoundOps", fn := fun _ => fun
  | [d] => { results := [.lit (.bool true)], args := [d] }
  | _ => none }
def fnAssignOpRanksTheElevenCompoundOpsRow : OpenClaim := { program := "qxb6626231a", sum := "1e34c57cccc214e04018fe3af4795eb0107114f9c154b5c7b9dd19a59b72617b", func := "example.com/marrow/marrow/zzlaws_internal_syntax_b1.FnAssignOpRanksTheElevenCompoundOps", spec := "fnAssignOpRanksTheElevenCompoundOps", apart := false }
def FnAssignOpRanksTheElevenCompoundOpsSaid : Prop := fnAssignOpRanksTheElevenCompoundOpsRow.holds Try.pinned (OpenSpec.ofChange fnAssignOpRanksTheElevenCompoundOpsSpec)

/-- ITS FALSE NEIGHBOUR: 'it returns false'. Refute it at one input. -/
def fnAssignOpRanksTheElevenCompoundOpsWrong : ChangeSpec := { name := "fnAssignOpRanksTheElevenCompoundOps", fn := fun _ => fun
  | [d] => { results := [.lit (.bool false)], args := [d] }
  | _ => none }
def FnAssignOpRanksTheElevenCompoundOpsWrongFalsely : Prop := fnAssignOpRanksTheElevenCompoundOpsRow.holds Try.pinned (OpenSpec.ofChange fnAssignOpRanksTheElevenCompoundOpsWrong)

end Rows
end Go.Proofs.Qxb6626231a
