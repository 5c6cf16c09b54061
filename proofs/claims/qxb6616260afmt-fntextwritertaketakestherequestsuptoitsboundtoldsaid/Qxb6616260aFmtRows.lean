/-
  NARROWER THAN 'FOR EVERY INPUT', by the rows' own cells (each row's printed sentence says how): FnTextWriterTakeTakesTheRequestsUpToItsBound: ifaces, laid · FnTextWriterTakeSplitRequestEqualsWhole: ifaces, laid.
  DERIVED. THE GIVEN ROWS OF THIS SEAT. 2 by the template 'for every input the law returns true; each argument reads behind the call as it read before'; 0 by the template 'total and deterministic' (their statements: Qxb6616260aFmtTotals.lean).
  GIVEN WITH THE SEED: the statements are not yours to turn. If you find one false, say at which input.
  Laid BY PROGRAM, IN A SANDBOX (cutbox-rows.mjs): the forced cells as the released guide's own fill.sh prints them over the translation b7a7218b6c94eaf5… (all of the seat's roots in one cut). By AI agents, Wed Nov 11 2026. No macro, syntax, notation, axiom, sorry.
-/
import Derived.Test.Qxb6616260aFmtChecked
import GoSem.Claim
import GoSem.ClaimJoined
import GoSem.ClaimMapViews
import Derived.JoinedTies
import Derived.KernelRfl
namespace Go.Proofs.Qxb6616260aFmt
/- THE CELL 'sum', in the pinned program and in every row, IS THE sha256 OF THE DUMP (.gsa) THAT Qxb6616260aFmtProg.lean LOADS. Nothing in Lean hashes anything: it is a label: what it is worth is what the hold of that sum in a sandbox is worth. -/
noncomputable def Tryf.pinned : Pinned := { name := "qxb6616260afmt", sum := "b7a7218b6c94eaf52a0644016ba9c22705f702b8591866f42c1ea65621ad12fd", checked := Tryf.checked }
namespace Rows
def none {H : Type} : Left H := { results := [], args := [] }

/- WHAT THE LISTED PACKAGE-LEVEL VARIABLES READ AS WHEN THE CALL BEGINS. Each datum BY PROGRAM (the guide's laid-datum.mjs) off the statement by which the dump's own 'gosem.cut.vars' lays the variable. In a bare row this is a premise. The card (Qxb6616260aFmtCards.lean) ties it to the program's text. -/
def laid_example_com_orrery_orrery_workflow_ErrTooLong {H : Type} : DataW H := .iface "*errors.errorString" (.ptr (.agg [.lit (.string [119, 111, 114, 107, 102, 108, 111, 119, 58, 32, 116, 101, 120, 116, 32, 116, 111, 111, 32, 108, 111, 110, 103])]))

/-- 'zzlaws_workflow_b1.FnTextWriterTakeTakesTheRequestsUpToItsBound': WHATEVER THE INPUT: true; the input reads as it did. -/
def fnTextWriterTakeTakesTheRequestsUpToItsBoundSpec : ChangeSpec := { name := "fnTextWriterTakeTakesTheRequestsUpToItsBound", vars := ["example.com/orrery/orrery/workflow.ErrTooLong"], fn := fun _ => fun
  | [d1, d2, d3, g1] => { results := [.lit (.bool true)], args := [d1, d2, d3], vars := [g1] }
  | _ => none }
def fnTextWriterTakeTakesTheRequestsUpToItsBoundRow : OpenClaim := { program := "qxb6616260afmt", sum := "b7a7218b6c94eaf52a0644016ba9c22705f702b8591866f42c1ea65621ad12fd", func := "example.com/orrery/orrery/zzlaws_workflow_b1.FnTextWriterTakeTakesTheRequestsUpToItsBound", spec := "fnTextWriterTakeTakesTheRequestsUpToItsBound", stops := ["fmt.errorf"], inPlace := ["fmt.errorf"], named := ["example.com/orrery/orrery/workflow.ErrTooLong"], ifaces := true, apart := false, laid := [("example.com/orrery/orrery/workflow.ErrTooLong", laid_example_com_orrery_orrery_workflow_ErrTooLong)] }
/-- NO THEOREM (fmt's text is open here; it may be false): for the released tool's asking of the row's closed facts alone. THE STATEMENT IS 'FnTextWriterTakeTakesTheRequestsUpToItsBoundToldSaid' (Qxb6616260aFmtCards.lean). -/
def FnTextWriterTakeTakesTheRequestsUpToItsBoundFormAsk : Prop := fnTextWriterTakeTakesTheRequestsUpToItsBoundRow.holds Tryf.pinned (OpenSpec.ofChange fnTextWriterTakeTakesTheRequestsUpToItsBoundSpec)

/-- ITS FALSE NEIGHBOUR: 'it returns false'. Refute it at one input. -/
def fnTextWriterTakeTakesTheRequestsUpToItsBoundWrong : ChangeSpec := { name := "fnTextWriterTakeTakesTheRequestsUpToItsBound", vars := ["example.com/orrery/orrery/workflow.ErrTooLong"], fn := fun _ => fun
  | [d1, d2, d3, g1] => { results := [.lit (.bool false)], args := [d1, d2, d3], vars := [g1] }
  | _ => none }
def FnTextWriterTakeTakesTheRequestsUpToItsBoundWrongFormAsk : Prop := fnTextWriterTakeTakesTheRequestsUpToItsBoundRow.holds Tryf.pinned (OpenSpec.ofChange fnTextWriterTakeTakesTheRequestsUpToItsBoundWrong)

/-- 'zzlaws_workflow_b1.FnTextWriterTakeSplitRequestEqualsWhole': WHATEVER THE INPUT: true; the input reads as it did. -/
def fnTextWriterTakeSplitRequestEqualsWholeSpec : ChangeSpec := { name := "fnTextWriterTakeSplitRequestEqualsWhole", vars := ["example.com/orrery/orrery/workflow.ErrTooLong"], fn := fun _ => fun
  | [d1, d2, d3, d4, g1] => { results := [.lit (.bool true)], args := [d1, d2, d3, d4], vars := [g1] }
  | _ => none }
def fnTextWriterTakeSplitRequestEqualsWholeRow : OpenClaim := { program := "qxb6616260afmt", sum := "b7a7218b6c94eaf52a0644016ba9c22705f702b8591866f42c1ea65621ad12fd", func := "example.com/orrery/orrery/zzlaws_workflow_b1.FnTextWriterTakeSplitRequestEqualsWhole", spec := "fnTextWriterTakeSplitRequestEqualsWhole", stops := ["fmt.errorf"], inPlace := ["fmt.errorf"], named := ["example.com/orrery/orrery/workflow.ErrTooLong"], ifaces := true, apart := false, laid := [("example.com/orrery/orrery/workflow.ErrTooLong", laid_example_com_orrery_orrery_workflow_ErrTooLong)] }
/-- NO THEOREM (fmt's text is open here; it may be false): for the released tool's asking of the row's closed facts alone. THE STATEMENT IS 'FnTextWriterTakeSplitRequestEqualsWholeToldSaid' (Qxb6616260aFmtCards.lean). -/
def FnTextWriterTakeSplitRequestEqualsWholeFormAsk : Prop := fnTextWriterTakeSplitRequestEqualsWholeRow.holds Tryf.pinned (OpenSpec.ofChange fnTextWriterTakeSplitRequestEqualsWholeSpec)

/-- ITS FALSE NEIGHBOUR: 'it returns false'. Refute it at one input. -/
def fnTextWriterTakeSplitRequestEqualsWholeWrong : ChangeSpec := { name := "fnTextWriterTakeSplitRequestEqualsWhole", vars := ["example.com/orrery/orrery/workflow.ErrTooLong"], fn := fun _ => fun
  | [d1, d2, d3, d4, g1] => { results := [.lit (.bool false)], args := [d1, d2, d3, d4], vars := [g1] }
  | _ => none }
def FnTextWriterTakeSplitRequestEqualsWholeWrongFormAsk : Prop := fnTextWriterTakeSplitRequestEqualsWholeRow.holds Tryf.pinned (OpenSpec.ofChange fnTextWriterTakeSplitRequestEqualsWholeWrong)

end Rows
end Go.Proofs.Qxb6616260aFmt
