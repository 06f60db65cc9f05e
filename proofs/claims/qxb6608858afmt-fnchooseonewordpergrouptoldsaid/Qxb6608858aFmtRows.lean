/-
  NARROWER THAN 'FOR EVERY INPUT', by the rows' own cells (each row's printed sentence says how): FnSubCountsUndoesItself: ifaces, laid · FnSubCountsInSteps: ifaces, laid.
  DERIVED. THE GIVEN ROWS OF THIS SEAT. 4 by the template 'for every input the law returns true; each argument reads behind the call as it read before'; 0 by the template 'total and deterministic' (their statements: Qxb6608858aFmtTotals.lean).
  GIVEN WITH THE SEED: the statements are not yours to turn. If you find one false, say at which input.
  Laid BY PROGRAM, IN A SANDBOX (cutbox-rows.mjs): the forced cells as the released guide's own fill.sh prints them over the translation 70aa357a6765507d… (all of the seat's roots in one cut). By AI agents, Wed Nov 11 2026. No macro, syntax, notation, axiom, sorry.
-/
import Derived.Test.Qxb6608858aFmtChecked
import GoSem.Claim
import GoSem.ClaimJoined
import GoSem.ClaimMapViews
import Derived.JoinedTies
import Derived.KernelRfl
namespace Go.Proofs.Qxb6608858aFmt
/- THE CELL 'sum', in the pinned program and in every row, IS THE sha256 OF THE DUMP (.gsa) THAT Qxb6608858aFmtProg.lean LOADS. Nothing in Lean hashes anything: it is a label: what it is worth is what the hold of that sum in a sandbox is worth. -/
noncomputable def Tryf.pinned : Pinned := { name := "qxb6608858afmt", sum := "70aa357a6765507d841ea8bcbf18af18fbd44283f7a9016894b50e6242327a73", checked := Tryf.checked }
namespace Rows
def none {H : Type} : Left H := { results := [], args := [] }

/- WHAT THE LISTED PACKAGE-LEVEL VARIABLES READ AS WHEN THE CALL BEGINS. Each datum BY PROGRAM (the guide's laid-datum.mjs) off the statement by which the dump's own 'gosem.cut.vars' lays the variable. In a bare row this is a premise. The card (Qxb6608858aFmtCards.lean) ties it to the program's text. -/
def laid_example_com_bytebrief_bytebrief_ErrRange {H : Type} : DataW H := .iface "*errors.errorString" (.ptr (.agg [.lit (.string [115, 105, 122, 101, 32, 111, 117, 116, 32, 111, 102, 32, 114, 97, 110, 103, 101, 58, 32, 97, 116, 32, 109, 111, 115, 116, 32, 49, 56, 52, 52, 54, 55, 52, 52, 48, 55, 51, 55, 48, 57, 53, 53, 49, 54, 49, 53])]))

/-- 'zzlaws_root_b1.FnSubCountsUndoesItself': WHATEVER THE INPUT: true; the input reads as it did. -/
def fnSubCountsUndoesItselfSpec : ChangeSpec := { name := "fnSubCountsUndoesItself", vars := ["example.com/bytebrief/bytebrief.ErrRange"], fn := fun _ => fun
  | [d1, d2, d3, g1] => { results := [.lit (.bool true)], args := [d1, d2, d3], vars := [g1] }
  | _ => none }
def fnSubCountsUndoesItselfRow : OpenClaim := { program := "qxb6608858afmt", sum := "70aa357a6765507d841ea8bcbf18af18fbd44283f7a9016894b50e6242327a73", func := "example.com/bytebrief/bytebrief/zzlaws_root_b1.FnSubCountsUndoesItself", spec := "fnSubCountsUndoesItself", stops := ["fmt.errorf"], inPlace := ["fmt.errorf"], named := ["example.com/bytebrief/bytebrief.ErrRange"], ifaces := true, apart := false, laid := [("example.com/bytebrief/bytebrief.ErrRange", laid_example_com_bytebrief_bytebrief_ErrRange)] }
/-- NO THEOREM (fmt's text is open here; it may be false): for the released tool's asking of the row's closed facts alone. THE STATEMENT IS 'FnSubCountsUndoesItselfToldSaid' (Qxb6608858aFmtCards.lean). -/
def FnSubCountsUndoesItselfFormAsk : Prop := fnSubCountsUndoesItselfRow.holds Tryf.pinned (OpenSpec.ofChange fnSubCountsUndoesItselfSpec)

/-- ITS FALSE NEIGHBOUR: 'it returns false'. Refute it at one input. -/
def fnSubCountsUndoesItselfWrong : ChangeSpec := { name := "fnSubCountsUndoesItself", vars := ["example.com/bytebrief/bytebrief.ErrRange"], fn := fun _ => fun
  | [d1, d2, d3, g1] => { results := [.lit (.bool false)], args := [d1, d2, d3], vars := [g1] }
  | _ => none }
def FnSubCountsUndoesItselfWrongFormAsk : Prop := fnSubCountsUndoesItselfRow.holds Tryf.pinned (OpenSpec.ofChange fnSubCountsUndoesItselfWrong)

/-- 'zzlaws_root_b1.FnSubCountsInSteps': WHATEVER THE INPUT: true; the input reads as it did. -/
def fnSubCountsInStepsSpec : ChangeSpec := { name := "fnSubCountsInSteps", vars := ["example.com/bytebrief/bytebrief.ErrRange"], fn := fun _ => fun
  | [d1, d2, d3, d4, g1] => { results := [.lit (.bool true)], args := [d1, d2, d3, d4], vars := [g1] }
  | _ => none }
def fnSubCountsInStepsRow : OpenClaim := { program := "qxb6608858afmt", sum := "70aa357a6765507d841ea8bcbf18af18fbd44283f7a9016894b50e6242327a73", func := "example.com/bytebrief/bytebrief/zzlaws_root_b1.FnSubCountsInSteps", spec := "fnSubCountsInSteps", stops := ["fmt.errorf"], inPlace := ["fmt.errorf"], named := ["example.com/bytebrief/bytebrief.ErrRange"], ifaces := true, apart := false, laid := [("example.com/bytebrief/bytebrief.ErrRange", laid_example_com_bytebrief_bytebrief_ErrRange)] }
/-- NO THEOREM (fmt's text is open here; it may be false): for the released tool's asking of the row's closed facts alone. THE STATEMENT IS 'FnSubCountsInStepsToldSaid' (Qxb6608858aFmtCards.lean). -/
def FnSubCountsInStepsFormAsk : Prop := fnSubCountsInStepsRow.holds Tryf.pinned (OpenSpec.ofChange fnSubCountsInStepsSpec)

/-- ITS FALSE NEIGHBOUR: 'it returns false'. Refute it at one input. -/
def fnSubCountsInStepsWrong : ChangeSpec := { name := "fnSubCountsInSteps", vars := ["example.com/bytebrief/bytebrief.ErrRange"], fn := fun _ => fun
  | [d1, d2, d3, d4, g1] => { results := [.lit (.bool false)], args := [d1, d2, d3, d4], vars := [g1] }
  | _ => none }
def FnSubCountsInStepsWrongFormAsk : Prop := fnSubCountsInStepsRow.holds Tryf.pinned (OpenSpec.ofChange fnSubCountsInStepsWrong)

/-- 'zzlaws_root_b1.FnChooseRepeatedWord': WHATEVER THE INPUT: true; the input reads as it did. -/
def fnChooseRepeatedWordSpec : ChangeSpec := { name := "fnChooseRepeatedWord", fn := fun _ => fun
  | [d1, d2, d3] => { results := [.lit (.bool true)], args := [d1, d2, d3] }
  | _ => none }
def fnChooseRepeatedWordRow : OpenClaim := { program := "qxb6608858afmt", sum := "70aa357a6765507d841ea8bcbf18af18fbd44283f7a9016894b50e6242327a73", func := "example.com/bytebrief/bytebrief/zzlaws_root_b1.FnChooseRepeatedWord", spec := "fnChooseRepeatedWord", stops := ["fmt.errorf"], inPlace := ["fmt.errorf", "internal/bytealg.IndexByteString", "internal/bytealg.IndexString"], named := ["internal/bytealg.MaxLen"], apart := false }
/-- NO THEOREM (fmt's text is open here; it may be false): for the released tool's asking of the row's closed facts alone. THE STATEMENT IS 'FnChooseRepeatedWordToldSaid' (Qxb6608858aFmtCards.lean). -/
def FnChooseRepeatedWordFormAsk : Prop := fnChooseRepeatedWordRow.holds Tryf.pinned (OpenSpec.ofChange fnChooseRepeatedWordSpec)

/-- ITS FALSE NEIGHBOUR: 'it returns false'. Refute it at one input. -/
def fnChooseRepeatedWordWrong : ChangeSpec := { name := "fnChooseRepeatedWord", fn := fun _ => fun
  | [d1, d2, d3] => { results := [.lit (.bool false)], args := [d1, d2, d3] }
  | _ => none }
def FnChooseRepeatedWordWrongFormAsk : Prop := fnChooseRepeatedWordRow.holds Tryf.pinned (OpenSpec.ofChange fnChooseRepeatedWordWrong)

/-- 'zzlaws_root_b1.FnChooseOneWordPerGroup': WHATEVER THE INPUT: true; the input reads as it did. -/
def fnChooseOneWordPerGroupSpec : ChangeSpec := { name := "fnChooseOneWordPerGroup", fn := fun _ => fun
  | [d1, d2, d3, d4] => { results := [.lit (.bool true)], args := [d1, d2, d3, d4] }
  | _ => none }
def fnChooseOneWordPerGroupRow : OpenClaim := { program := "qxb6608858afmt", sum := "70aa357a6765507d841ea8bcbf18af18fbd44283f7a9016894b50e6242327a73", func := "example.com/bytebrief/bytebrief/zzlaws_root_b1.FnChooseOneWordPerGroup", spec := "fnChooseOneWordPerGroup", stops := ["fmt.errorf"], inPlace := ["fmt.errorf", "internal/bytealg.IndexByteString", "internal/bytealg.IndexString"], named := ["internal/bytealg.MaxLen"], apart := false }
/-- NO THEOREM (fmt's text is open here; it may be false): for the released tool's asking of the row's closed facts alone. THE STATEMENT IS 'FnChooseOneWordPerGroupToldSaid' (Qxb6608858aFmtCards.lean). -/
def FnChooseOneWordPerGroupFormAsk : Prop := fnChooseOneWordPerGroupRow.holds Tryf.pinned (OpenSpec.ofChange fnChooseOneWordPerGroupSpec)

/-- ITS FALSE NEIGHBOUR: 'it returns false'. Refute it at one input. -/
def fnChooseOneWordPerGroupWrong : ChangeSpec := { name := "fnChooseOneWordPerGroup", fn := fun _ => fun
  | [d1, d2, d3, d4] => { results := [.lit (.bool false)], args := [d1, d2, d3, d4] }
  | _ => none }
def FnChooseOneWordPerGroupWrongFormAsk : Prop := fnChooseOneWordPerGroupRow.holds Tryf.pinned (OpenSpec.ofChange fnChooseOneWordPerGroupWrong)

end Rows
end Go.Proofs.Qxb6608858aFmt
