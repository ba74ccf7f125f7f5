/-
  No cell of these rows narrows 'for every input' (looked for: loops, veiled, ifaces, maps, wideKeys, modest, calm, conditions, laid).
  DERIVED. THE GIVEN ROWS OF THIS SEAT. 2 by the template 'for every input the law returns true; each argument reads behind the call as it read before'; 0 by the template 'total and deterministic' (their statements: Qxb6626434aTotals.lean).
  GIVEN WITH THE SEED: the statements are not yours to turn. If you find one false, say at which input.
  Laid BY PROGRAM, IN A SANDBOX (cutbox-rows.mjs): the forced cells as the released guide's own fill.sh prints them over the translation 8c172d085181a573… (all of the seat's roots in one cut). By AI agents, Wed Nov 11 2026. No macro, syntax, notation, axiom, sorry.
-/
import Derived.Test.Qxb6626434aChecked
import GoSem.Claim
import GoSem.ClaimJoined
import GoSem.ClaimMapViews
import Derived.JoinedTies
import Derived.KernelRfl
namespace Go.Proofs.Qxb6626434a
/- THE CELL 'sum', in the pinned program and in every row, IS THE sha256 OF THE DUMP (.gsa) THAT Qxb6626434aProg.lean LOADS. Nothing in Lean hashes anything: it is a label: what it is worth is what the hold of that sum in a sandbox is worth. -/
noncomputable def Try.pinned : Pinned := { name := "qxb6626434a", sum := "8c172d085181a573b1647b7294c83dad485fae1c250da889a069f17b69c2e86f", checked := Try.checked }
namespace Rows
def none {H : Type} : Left H := { results := [], args := [] }

/-- 'zzlaws_root_b1.FnValidNameIsLengthAndEveryCharacter': WHATEVER THE INPUT: true; the input reads as it did. -/
def fnValidNameIsLengthAndEveryCharacterSpec : ChangeSpec := { name := "fnValidNameIsLengthAndEveryCharacter", fn := fun _ => fun
  | [d] => { results := [.lit (.bool true)], args := [d] }
  | _ => none }
def fnValidNameIsLengthAndEveryCharacterRow : OpenClaim := { program := "qxb6626434a", sum := "8c172d085181a573b1647b7294c83dad485fae1c250da889a069f17b69c2e86f", func := "example.com/redant/redant/zzlaws_root_b1.FnValidNameIsLengthAndEveryCharacter", spec := "fnValidNameIsLengthAndEveryCharacter", apart := false }
def FnValidNameIsLengthAndEveryCharacterSaid : Prop := fnValidNameIsLengthAndEveryCharacterRow.holds Try.pinned (OpenSpec.ofChange fnValidNameIsLengthAndEveryCharacterSpec)

/-- ITS FALSE NEIGHBOUR: 'it returns false'. Refute it at one input. -/
def fnValidNameIsLengthAndEveryCharacterWrong : ChangeSpec := { name := "fnValidNameIsLengthAndEveryCharacter", fn := fun _ => fun
  | [d] => { results := [.lit (.bool false)], args := [d] }
  | _ => none }
def FnValidNameIsLengthAndEveryCharacterWrongFalsely : Prop := fnValidNameIsLengthAndEveryCharacterRow.holds Try.pinned (OpenSpec.ofChange fnValidNameIsLengthAndEveryCharacterWrong)

/-- 'zzlaws_root_b1.FnValidNameCutAnywhere': WHATEVER THE INPUT: true; the input reads as it did. -/
def fnValidNameCutAnywhereSpec : ChangeSpec := { name := "fnValidNameCutAnywhere", fn := fun _ => fun
  | [d1, d2] => { results := [.lit (.bool true)], args := [d1, d2] }
  | _ => none }
def fnValidNameCutAnywhereRow : OpenClaim := { program := "qxb6626434a", sum := "8c172d085181a573b1647b7294c83dad485fae1c250da889a069f17b69c2e86f", func := "example.com/redant/redant/zzlaws_root_b1.FnValidNameCutAnywhere", spec := "fnValidNameCutAnywhere", apart := false }
def FnValidNameCutAnywhereSaid : Prop := fnValidNameCutAnywhereRow.holds Try.pinned (OpenSpec.ofChange fnValidNameCutAnywhereSpec)

/-- ITS FALSE NEIGHBOUR: 'it returns false'. Refute it at one input. -/
def fnValidNameCutAnywhereWrong : ChangeSpec := { name := "fnValidNameCutAnywhere", fn := fun _ => fun
  | [d1, d2] => { results := [.lit (.bool false)], args := [d1, d2] }
  | _ => none }
def FnValidNameCutAnywhereWrongFalsely : Prop := fnValidNameCutAnywhereRow.holds Try.pinned (OpenSpec.ofChange fnValidNameCutAnywhereWrong)

end Rows
end Go.Proofs.Qxb6626434a
