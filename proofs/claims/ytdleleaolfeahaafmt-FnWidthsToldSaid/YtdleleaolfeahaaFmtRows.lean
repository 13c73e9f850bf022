/-
  NARROWER THAN 'FOR EVERY INPUT', by the rows' own cells (each row's printed sentence says how): FnWidths: laid · FnPieces: laid · FnReads: laid.
  DERIVED. THE GIVEN ROWS OF THIS SEAT. 4 by the template 'for every input the law returns true; each argument reads behind the call as it read before'; 0 by the template 'total and deterministic' (their statements: YtdleleaolfeahaaFmtTotals.lean).
  GIVEN WITH THE SEED: the statements are not yours to turn. If you find one false, say at which input.
  Laid BY PROGRAM, IN A SANDBOX (cutbox-rows.mjs): the forced cells as the released guide's own fill.sh prints them over the translation cba58b28c332cbc5… (all of the seat's roots in one cut). By AI agents, Wed Nov 11 2026. No macro, syntax, notation, axiom, sorry.
-/
import Derived.Test.YtdleleaolfeahaaFmtChecked
import GoSem.Claim
import GoSem.ClaimJoined
import GoSem.ClaimMapViews
import Derived.JoinedTies
import Derived.KernelRfl
namespace Go.Proofs.YtdleleaolfeahaaFmt
/- THE CELL 'sum', in the pinned program and in every row, IS THE sha256 OF THE DUMP (.gsa) THAT YtdleleaolfeahaaFmtProg.lean LOADS. Nothing in Lean hashes anything: it is a label: what it is worth is what the hold of that sum in a sandbox is worth. -/
noncomputable def Tryf.pinned : Pinned := { name := "ytdleleaolfeahaafmt", sum := "cba58b28c332cbc5592084817974a0fab038fafe1605e42cd74f976fea303658", checked := Tryf.checked }
namespace Rows
def none {H : Type} : Left H := { results := [], args := [] }

/- WHAT THE LISTED PACKAGE-LEVEL VARIABLES READ AS WHEN THE CALL BEGINS. Each datum BY PROGRAM (the guide's laid-datum.mjs) off the statement by which the dump's own 'gosem.cut.vars' lays the variable. In a bare row this is a premise. The card (YtdleleaolfeahaaFmtCards.lean) ties it to the program's text. -/
def laid_io_EOF {H : Type} : DataW H := .iface "*errors.errorString" (.ptr (.agg [.lit (.string [69, 79, 70])]))

/-- 'laws.FnClosed': WHATEVER THE INPUT: true; the input reads as it did. -/
def fnClosedSpec : ChangeSpec := { name := "fnClosed", fn := fun _ => fun
  | [d1, d2, d3] => { results := [.lit (.bool true)], args := [d1, d2, d3] }
  | _ => none }
def fnClosedRow : OpenClaim := { program := "ytdleleaolfeahaafmt", sum := "cba58b28c332cbc5592084817974a0fab038fafe1605e42cd74f976fea303658", func := "platefold/laws.FnClosed", spec := "fnClosed", stops := ["fmt.errorf"], inPlace := ["fmt.errorf"], unfollowed := true, recurses := true, apart := false }
/-- NO THEOREM (fmt's text is open here; it may be false): for the released tool's asking of the row's closed facts alone. THE STATEMENT IS 'FnClosedToldSaid' (YtdleleaolfeahaaFmtCards.lean). -/
def FnClosedFormAsk : Prop := fnClosedRow.holds Tryf.pinned (OpenSpec.ofChange fnClosedSpec)

/-- ITS FALSE NEIGHBOUR: 'it returns false'. Refute it at one input. -/
def fnClosedWrong : ChangeSpec := { name := "fnClosed", fn := fun _ => fun
  | [d1, d2, d3] => { results := [.lit (.bool false)], args := [d1, d2, d3] }
  | _ => none }
def FnClosedWrongFormAsk : Prop := fnClosedRow.holds Tryf.pinned (OpenSpec.ofChange fnClosedWrong)

/-- 'laws.FnWidths': WHATEVER THE INPUT: true; the input reads as it did. -/
def fnWidthsSpec : ChangeSpec := { name := "fnWidths", fn := fun _ => fun
  | [d1, d2, d3] => { results := [.lit (.bool true)], args := [d1, d2, d3] }
  | _ => none }
def fnWidthsRow : OpenClaim := { program := "ytdleleaolfeahaafmt", sum := "cba58b28c332cbc5592084817974a0fab038fafe1605e42cd74f976fea303658", func := "platefold/laws.FnWidths", spec := "fnWidths", stops := ["fmt.errorf"], inPlace := ["fmt.errorf"], unfollowed := true, recurses := true, named := ["io.EOF"], apart := false, laid := [("io.EOF", laid_io_EOF)] }
/-- NO THEOREM (fmt's text is open here; it may be false): for the released tool's asking of the row's closed facts alone. THE STATEMENT IS 'FnWidthsToldSaid' (YtdleleaolfeahaaFmtCards.lean). -/
def FnWidthsFormAsk : Prop := fnWidthsRow.holds Tryf.pinned (OpenSpec.ofChange fnWidthsSpec)

/-- ITS FALSE NEIGHBOUR: 'it returns false'. Refute it at one input. -/
def fnWidthsWrong : ChangeSpec := { name := "fnWidths", fn := fun _ => fun
  | [d1, d2, d3] => { results := [.lit (.bool false)], args := [d1, d2, d3] }
  | _ => none }
def FnWidthsWrongFormAsk : Prop := fnWidthsRow.holds Tryf.pinned (OpenSpec.ofChange fnWidthsWrong)

/-- 'laws.FnPieces': WHATEVER THE INPUT: true; the input reads as it did. -/
def fnPiecesSpec : ChangeSpec := { name := "fnPieces", fn := fun _ => fun
  | [d1, d2, d3, d4] => { results := [.lit (.bool true)], args := [d1, d2, d3, d4] }
  | _ => none }
def fnPiecesRow : OpenClaim := { program := "ytdleleaolfeahaafmt", sum := "cba58b28c332cbc5592084817974a0fab038fafe1605e42cd74f976fea303658", func := "platefold/laws.FnPieces", spec := "fnPieces", stops := ["fmt.errorf"], inPlace := ["fmt.errorf"], unfollowed := true, recurses := true, named := ["io.EOF"], apart := false, laid := [("io.EOF", laid_io_EOF)] }
/-- NO THEOREM (fmt's text is open here; it may be false): for the released tool's asking of the row's closed facts alone. THE STATEMENT IS 'FnPiecesToldSaid' (YtdleleaolfeahaaFmtCards.lean). -/
def FnPiecesFormAsk : Prop := fnPiecesRow.holds Tryf.pinned (OpenSpec.ofChange fnPiecesSpec)

/-- ITS FALSE NEIGHBOUR: 'it returns false'. Refute it at one input. -/
def fnPiecesWrong : ChangeSpec := { name := "fnPieces", fn := fun _ => fun
  | [d1, d2, d3, d4] => { results := [.lit (.bool false)], args := [d1, d2, d3, d4] }
  | _ => none }
def FnPiecesWrongFormAsk : Prop := fnPiecesRow.holds Tryf.pinned (OpenSpec.ofChange fnPiecesWrong)

/-- 'laws.FnReads': WHATEVER THE INPUT: true; the input reads as it did. -/
def fnReadsSpec : ChangeSpec := { name := "fnReads", fn := fun _ => fun
  | [d1, d2, d3, d4] => { results := [.lit (.bool true)], args := [d1, d2, d3, d4] }
  | _ => none }
def fnReadsRow : OpenClaim := { program := "ytdleleaolfeahaafmt", sum := "cba58b28c332cbc5592084817974a0fab038fafe1605e42cd74f976fea303658", func := "platefold/laws.FnReads", spec := "fnReads", stops := ["fmt.errorf"], inPlace := ["fmt.errorf"], unfollowed := true, recurses := true, named := ["io.EOF"], apart := false, laid := [("io.EOF", laid_io_EOF)] }
/-- NO THEOREM (fmt's text is open here; it may be false): for the released tool's asking of the row's closed facts alone. THE STATEMENT IS 'FnReadsToldSaid' (YtdleleaolfeahaaFmtCards.lean). -/
def FnReadsFormAsk : Prop := fnReadsRow.holds Tryf.pinned (OpenSpec.ofChange fnReadsSpec)

/-- ITS FALSE NEIGHBOUR: 'it returns false'. Refute it at one input. -/
def fnReadsWrong : ChangeSpec := { name := "fnReads", fn := fun _ => fun
  | [d1, d2, d3, d4] => { results := [.lit (.bool false)], args := [d1, d2, d3, d4] }
  | _ => none }
def FnReadsWrongFormAsk : Prop := fnReadsRow.holds Tryf.pinned (OpenSpec.ofChange fnReadsWrong)

end Rows
end Go.Proofs.YtdleleaolfeahaaFmt
