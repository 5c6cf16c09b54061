/-
  No cell of these rows narrows 'for every input' (looked for: loops, veiled, ifaces, maps, wideKeys, modest, calm, conditions, laid).
  DERIVED. THE GIVEN ROWS OF THIS SEAT. 1 by the template 'for every input the law returns true; each argument reads behind the call as it read before'; 0 by the template 'total and deterministic' (their statements: Qxb6616260aTotals.lean).
  GIVEN WITH THE SEED: the statements are not yours to turn. If you find one false, say at which input.
  Laid BY PROGRAM, IN A SANDBOX (cutbox-rows.mjs): the forced cells as the released guide's own fill.sh prints them over the translation e9a5b3ab2eedf647… (all of the seat's roots in one cut). By AI agents, Wed Nov 11 2026. No macro, syntax, notation, axiom, sorry.
-/
import Derived.Test.Qxb6616260aChecked
import GoSem.Claim
import GoSem.ClaimJoined
import GoSem.ClaimMapViews
import Derived.JoinedTies
import Derived.KernelRfl
namespace Go.Proofs.Qxb6616260a
/- THE CELL 'sum', in the pinned program and in every row, IS THE sha256 OF THE DUMP (.gsa) THAT Qxb6616260aProg.lean LOADS. Nothing in Lean hashes anything: it is a label: what it is worth is what the hold of that sum in a sandbox is worth. -/
noncomputable def Try.pinned : Pinned := { name := "qxb6616260a", sum := "e9a5b3ab2eedf6472866c9e51a225b3e137223b1038962f505425b650fe08600", checked := Try.checked }
namespace Rows
def none {H : Type} : Left H := { results := [], args := [] }

/-- 'zzlaws_workflow_b1.FnTemplateInputsIsTheTemplatesOwnList': WHATEVER THE INPUT: true; the input reads as it did. -/
def fnTemplateInputsIsTheTemplatesOwnListSpec : ChangeSpec := { name := "fnTemplateInputsIsTheTemplatesOwnList", fn := fun _ => fun
  | [d1, d2] => { results := [.lit (.bool true)], args := [d1, d2] }
  | _ => none }
def fnTemplateInputsIsTheTemplatesOwnListRow : OpenClaim := { program := "qxb6616260a", sum := "e9a5b3ab2eedf6472866c9e51a225b3e137223b1038962f505425b650fe08600", func := "example.com/orrery/orrery/zzlaws_workflow_b1.FnTemplateInputsIsTheTemplatesOwnList", spec := "fnTemplateInputsIsTheTemplatesOwnList", apart := false }
def FnTemplateInputsIsTheTemplatesOwnListSaid : Prop := fnTemplateInputsIsTheTemplatesOwnListRow.holds Try.pinned (OpenSpec.ofChange fnTemplateInputsIsTheTemplatesOwnListSpec)

/-- ITS FALSE NEIGHBOUR: 'it returns false'. Refute it at one input. -/
def fnTemplateInputsIsTheTemplatesOwnListWrong : ChangeSpec := { name := "fnTemplateInputsIsTheTemplatesOwnList", fn := fun _ => fun
  | [d1, d2] => { results := [.lit (.bool false)], args := [d1, d2] }
  | _ => none }
def FnTemplateInputsIsTheTemplatesOwnListWrongFalsely : Prop := fnTemplateInputsIsTheTemplatesOwnListRow.holds Try.pinned (OpenSpec.ofChange fnTemplateInputsIsTheTemplatesOwnListWrong)

end Rows
end Go.Proofs.Qxb6616260a
