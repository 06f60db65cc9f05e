/-
  DERIVED. GIVEN WITH THE SEED: THE CARDS: each row of Qxb6608858aFmtRows.lean that lists a variable, with what it lists TIED to the program's text (the seventh form; the later family's looks); each row that meets fmt, with fmt's text TOLD by the authors' own Lean function (tested against real Go, not proved from fmt's source: count such statements apart). THE CARD IS WHAT COUNTS. Prove the row's statement (the work); the ties are given (Qxb6608858aFmtTie.lean); close each card by the builder's one call (the guide's Derived/Test/ToyasCard.lean, 'card_holds'). Laid BY PROGRAM, IN A SANDBOX (cutbox-door.mjs). By AI agents, Wed Nov 11 2026. No macro, syntax, notation, axiom, sorry.
-/
import Derived.Test.Qxb6608858aFmtRows
import GoSem.ClaimSeven
namespace Go.Proofs.Qxb6608858aFmt
namespace Rows

/-- THE TOLD AND TIED CARD OF 'zzlaws_root_b1.FnSubCountsUndoesItself'. -/
def fnSubCountsUndoesItselfCard : Claim7 := { stood := { row := fnSubCountsUndoesItselfRow, standIns := [], harness := (true, "9c689a0ae94711e460d533dee48a4e6450b78c46ea0f3043e3b007d0120463f5"), looks := false }, told := true, laidByText := true, laidKinds := [.sentinel], laidTests := true, laidLooks := .later, goes := false }
def FnSubCountsUndoesItselfToldSaid : Prop := Claim7.holds Tryf.pinned (.plain (OpenSpec.ofChange fnSubCountsUndoesItselfSpec)) fnSubCountsUndoesItselfCard
/-- ITS FALSE NEIGHBOUR. Refute it at one input. -/
def FnSubCountsUndoesItselfToldWrongFalsely : Prop := Claim7.holds Tryf.pinned (.plain (OpenSpec.ofChange fnSubCountsUndoesItselfWrong)) fnSubCountsUndoesItselfCard

/-- THE TOLD AND TIED CARD OF 'zzlaws_root_b1.FnSubCountsInSteps'. -/
def fnSubCountsInStepsCard : Claim7 := { stood := { row := fnSubCountsInStepsRow, standIns := [], harness := (true, "9c689a0ae94711e460d533dee48a4e6450b78c46ea0f3043e3b007d0120463f5"), looks := false }, told := true, laidByText := true, laidKinds := [.sentinel], laidTests := true, laidLooks := .later, goes := false }
def FnSubCountsInStepsToldSaid : Prop := Claim7.holds Tryf.pinned (.plain (OpenSpec.ofChange fnSubCountsInStepsSpec)) fnSubCountsInStepsCard
/-- ITS FALSE NEIGHBOUR. Refute it at one input. -/
def FnSubCountsInStepsToldWrongFalsely : Prop := Claim7.holds Tryf.pinned (.plain (OpenSpec.ofChange fnSubCountsInStepsWrong)) fnSubCountsInStepsCard

/-- THE TOLD CARD OF 'zzlaws_root_b1.FnChooseRepeatedWord'. -/
def fnChooseRepeatedWordCard : Claim7 := { stood := { row := fnChooseRepeatedWordRow, standIns := [], harness := (true, "9c689a0ae94711e460d533dee48a4e6450b78c46ea0f3043e3b007d0120463f5"), looks := false }, told := true, goes := false }
def FnChooseRepeatedWordToldSaid : Prop := Claim7.holds Tryf.pinned (.plain (OpenSpec.ofChange fnChooseRepeatedWordSpec)) fnChooseRepeatedWordCard
/-- ITS FALSE NEIGHBOUR. Refute it at one input. -/
def FnChooseRepeatedWordToldWrongFalsely : Prop := Claim7.holds Tryf.pinned (.plain (OpenSpec.ofChange fnChooseRepeatedWordWrong)) fnChooseRepeatedWordCard

/-- THE TOLD CARD OF 'zzlaws_root_b1.FnChooseOneWordPerGroup'. -/
def fnChooseOneWordPerGroupCard : Claim7 := { stood := { row := fnChooseOneWordPerGroupRow, standIns := [], harness := (true, "9c689a0ae94711e460d533dee48a4e6450b78c46ea0f3043e3b007d0120463f5"), looks := false }, told := true, goes := false }
def FnChooseOneWordPerGroupToldSaid : Prop := Claim7.holds Tryf.pinned (.plain (OpenSpec.ofChange fnChooseOneWordPerGroupSpec)) fnChooseOneWordPerGroupCard
/-- ITS FALSE NEIGHBOUR. Refute it at one input. -/
def FnChooseOneWordPerGroupToldWrongFalsely : Prop := Claim7.holds Tryf.pinned (.plain (OpenSpec.ofChange fnChooseOneWordPerGroupWrong)) fnChooseOneWordPerGroupCard
end Rows
end Go.Proofs.Qxb6608858aFmt
