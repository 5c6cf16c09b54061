/-
  DERIVED. GIVEN WITH THE SEED: THE CARDS: each row of Qxb6616260aFmtRows.lean that lists a variable, with what it lists TIED to the program's text (the seventh form; the later family's looks); each row that meets fmt, with fmt's text TOLD by the authors' own Lean function (tested against real Go, not proved from fmt's source: count such statements apart). THE CARD IS WHAT COUNTS. Prove the row's statement (the work); the ties are given (Qxb6616260aFmtTie.lean); close each card by the builder's one call (the guide's Derived/Test/ToyasCard.lean, 'card_holds'). Laid BY PROGRAM, IN A SANDBOX (cutbox-door.mjs). By AI agents, Wed Nov 11 2026. No macro, syntax, notation, axiom, sorry.
-/
import Derived.Test.Qxb6616260aFmtRows
import GoSem.ClaimSeven
namespace Go.Proofs.Qxb6616260aFmt
namespace Rows

/-- THE TOLD AND TIED CARD OF 'zzlaws_workflow_b1.FnTextWriterTakeTakesTheRequestsUpToItsBound'. -/
def fnTextWriterTakeTakesTheRequestsUpToItsBoundCard : Claim7 := { stood := { row := fnTextWriterTakeTakesTheRequestsUpToItsBoundRow, standIns := [], harness := (true, "d3952d11199b6c1ac55f08b34d2e68d1d63a3daac5cd7d386ece1e0d4d214eef"), looks := false }, told := true, laidByText := true, laidKinds := [.called], laidTests := true, laidLooks := .later, goes := false }
def FnTextWriterTakeTakesTheRequestsUpToItsBoundToldSaid : Prop := Claim7.holds Tryf.pinned (.plain (OpenSpec.ofChange fnTextWriterTakeTakesTheRequestsUpToItsBoundSpec)) fnTextWriterTakeTakesTheRequestsUpToItsBoundCard
/-- ITS FALSE NEIGHBOUR. Refute it at one input. -/
def FnTextWriterTakeTakesTheRequestsUpToItsBoundToldWrongFalsely : Prop := Claim7.holds Tryf.pinned (.plain (OpenSpec.ofChange fnTextWriterTakeTakesTheRequestsUpToItsBoundWrong)) fnTextWriterTakeTakesTheRequestsUpToItsBoundCard

/-- THE TOLD AND TIED CARD OF 'zzlaws_workflow_b1.FnTextWriterTakeSplitRequestEqualsWhole'. -/
def fnTextWriterTakeSplitRequestEqualsWholeCard : Claim7 := { stood := { row := fnTextWriterTakeSplitRequestEqualsWholeRow, standIns := [], harness := (true, "d3952d11199b6c1ac55f08b34d2e68d1d63a3daac5cd7d386ece1e0d4d214eef"), looks := false }, told := true, laidByText := true, laidKinds := [.called], laidTests := true, laidLooks := .later, goes := false }
def FnTextWriterTakeSplitRequestEqualsWholeToldSaid : Prop := Claim7.holds Tryf.pinned (.plain (OpenSpec.ofChange fnTextWriterTakeSplitRequestEqualsWholeSpec)) fnTextWriterTakeSplitRequestEqualsWholeCard
/-- ITS FALSE NEIGHBOUR. Refute it at one input. -/
def FnTextWriterTakeSplitRequestEqualsWholeToldWrongFalsely : Prop := Claim7.holds Tryf.pinned (.plain (OpenSpec.ofChange fnTextWriterTakeSplitRequestEqualsWholeWrong)) fnTextWriterTakeSplitRequestEqualsWholeCard
end Rows
end Go.Proofs.Qxb6616260aFmt
