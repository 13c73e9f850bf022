/-
  DERIVED. GIVEN WITH THE SEED: THE CARDS: each row of YtdleleaolfeahaaFmtRows.lean that lists a variable, with what it lists TIED to the program's text (the seventh form; the later family's looks); each row that meets fmt, with fmt's text TOLD by the authors' own Lean function (tested against real Go, not proved from fmt's source: count such statements apart). THE CARD IS WHAT COUNTS. Prove the row's statement (the work); the ties are given (YtdleleaolfeahaaFmtTie.lean); close each card by the builder's one call (the guide's Derived/Test/ToyasCard.lean, 'card_holds'). Laid BY PROGRAM, IN A SANDBOX (cutbox-door.mjs). By AI agents, Wed Nov 11 2026. No macro, syntax, notation, axiom, sorry.
-/
import Derived.Test.YtdleleaolfeahaaFmtRows
import GoSem.ClaimSeven
namespace Go.Proofs.YtdleleaolfeahaaFmt
namespace Rows

/-- THE TOLD CARD OF 'laws.FnClosed'. -/
def fnClosedCard : Claim7 := { stood := { row := fnClosedRow, standIns := [], harness := (true, "2f510230460c5583390b0dfee3135d8d8202fc5c00033e3b2719b227543b427f"), looks := true }, told := true, goes := false }
def FnClosedToldSaid : Prop := Claim7.holds Tryf.pinned (.plain (OpenSpec.ofChange fnClosedSpec)) fnClosedCard
/-- ITS FALSE NEIGHBOUR. Refute it at one input. -/
def FnClosedToldWrongFalsely : Prop := Claim7.holds Tryf.pinned (.plain (OpenSpec.ofChange fnClosedWrong)) fnClosedCard

/-- THE TOLD AND TIED CARD OF 'laws.FnWidths'. -/
def fnWidthsCard : Claim7 := { stood := { row := fnWidthsRow, standIns := [], harness := (true, "2f510230460c5583390b0dfee3135d8d8202fc5c00033e3b2719b227543b427f"), looks := true }, told := true, laidByText := true, laidKinds := [.sentinel], laidTests := true, laidLooks := .later, goes := false }
def FnWidthsToldSaid : Prop := Claim7.holds Tryf.pinned (.plain (OpenSpec.ofChange fnWidthsSpec)) fnWidthsCard
/-- ITS FALSE NEIGHBOUR. Refute it at one input. -/
def FnWidthsToldWrongFalsely : Prop := Claim7.holds Tryf.pinned (.plain (OpenSpec.ofChange fnWidthsWrong)) fnWidthsCard

/-- THE TOLD AND TIED CARD OF 'laws.FnPieces'. -/
def fnPiecesCard : Claim7 := { stood := { row := fnPiecesRow, standIns := [], harness := (true, "2f510230460c5583390b0dfee3135d8d8202fc5c00033e3b2719b227543b427f"), looks := true }, told := true, laidByText := true, laidKinds := [.sentinel], laidTests := true, laidLooks := .later, goes := false }
def FnPiecesToldSaid : Prop := Claim7.holds Tryf.pinned (.plain (OpenSpec.ofChange fnPiecesSpec)) fnPiecesCard
/-- ITS FALSE NEIGHBOUR. Refute it at one input. -/
def FnPiecesToldWrongFalsely : Prop := Claim7.holds Tryf.pinned (.plain (OpenSpec.ofChange fnPiecesWrong)) fnPiecesCard

/-- THE TOLD AND TIED CARD OF 'laws.FnReads'. -/
def fnReadsCard : Claim7 := { stood := { row := fnReadsRow, standIns := [], harness := (true, "2f510230460c5583390b0dfee3135d8d8202fc5c00033e3b2719b227543b427f"), looks := true }, told := true, laidByText := true, laidKinds := [.sentinel], laidTests := true, laidLooks := .later, goes := false }
def FnReadsToldSaid : Prop := Claim7.holds Tryf.pinned (.plain (OpenSpec.ofChange fnReadsSpec)) fnReadsCard
/-- ITS FALSE NEIGHBOUR. Refute it at one input. -/
def FnReadsToldWrongFalsely : Prop := Claim7.holds Tryf.pinned (.plain (OpenSpec.ofChange fnReadsWrong)) fnReadsCard
end Rows
end Go.Proofs.YtdleleaolfeahaaFmt
