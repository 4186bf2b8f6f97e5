/-
  DERIVED. GIVEN WITH THE SEED: THE CARDS: each row of YtkfdcbdlcipmfaaGreatFmtRows.lean that lists a variable, with what it lists TIED to the program's text (the seventh form; the later family's looks); each row that meets fmt, with fmt's text TOLD by the authors' own Lean function (tested against real Go, not proved from fmt's source: count such statements apart). THE CARD IS WHAT COUNTS. Prove the row's statement (the work); the ties are given (YtkfdcbdlcipmfaaGreatFmtTie.lean); close each card by the builder's one call (the guide's Derived/Test/ToyasCard.lean, 'card_holds'). Laid BY PROGRAM, IN A SANDBOX (cutbox-door.mjs). By AI agents, Wed Nov 11 2026. No macro, syntax, notation, axiom, sorry.
-/
import Derived.Test.YtkfdcbdlcipmfaaGreatFmtRows
import GoSem.ClaimSeven
namespace Go.Proofs.YtkfdcbdlcipmfaaGreatFmt
namespace Rows

/-- THE TOLD AND TIED CARD OF 'laws.FnRuleIsRead'. -/
def fnRuleIsReadCard : Claim7 := { stood := { row := fnRuleIsReadRow, standIns := [], harness := (true, "c63a7e70bd086f0ed9fa614d934771394bd587868b98c02e6b54e41393f63780"), looks := true }, told := true, laidByText := true, laidKinds := [.data, .data, .data, .data, .widerDeep, .pinned, .pinned], laidTests := true, laidLooks := .later, goes := false }
def FnRuleIsReadToldSaid : Prop := Claim7.holds Tryz.pinned (.plain (OpenSpec.ofChange fnRuleIsReadSpec)) fnRuleIsReadCard
/-- ITS FALSE NEIGHBOUR. Refute it at one input. -/
def FnRuleIsReadToldWrongFalsely : Prop := Claim7.holds Tryz.pinned (.plain (OpenSpec.ofChange fnRuleIsReadWrong)) fnRuleIsReadCard

/-- THE TOLD AND TIED CARD OF 'laws.FnMinifiedIsTheSame'. -/
def fnMinifiedIsTheSameCard : Claim7 := { stood := { row := fnMinifiedIsTheSameRow, standIns := [], harness := (true, "c63a7e70bd086f0ed9fa614d934771394bd587868b98c02e6b54e41393f63780"), looks := true }, told := true, laidByText := true, laidKinds := [.data, .data, .data, .data, .widerDeep, .pinned, .pinned], laidTests := true, laidLooks := .later, goes := false }
def FnMinifiedIsTheSameToldSaid : Prop := Claim7.holds Tryz.pinned (.plain (OpenSpec.ofChange fnMinifiedIsTheSameSpec)) fnMinifiedIsTheSameCard
/-- ITS FALSE NEIGHBOUR. Refute it at one input. -/
def FnMinifiedIsTheSameToldWrongFalsely : Prop := Claim7.holds Tryz.pinned (.plain (OpenSpec.ofChange fnMinifiedIsTheSameWrong)) fnMinifiedIsTheSameCard

/-- THE TOLD AND TIED CARD OF 'laws.FnSpacedAtIsRead'. -/
def fnSpacedAtIsReadCard : Claim7 := { stood := { row := fnSpacedAtIsReadRow, standIns := [], harness := (true, "c63a7e70bd086f0ed9fa614d934771394bd587868b98c02e6b54e41393f63780"), looks := true }, told := true, laidByText := true, laidKinds := [.data, .data, .data, .data, .widerDeep, .pinned, .pinned], laidTests := true, laidLooks := .later, goes := false }
def FnSpacedAtIsReadToldSaid : Prop := Claim7.holds Tryz.pinned (.plain (OpenSpec.ofChange fnSpacedAtIsReadSpec)) fnSpacedAtIsReadCard
/-- ITS FALSE NEIGHBOUR. Refute it at one input. -/
def FnSpacedAtIsReadToldWrongFalsely : Prop := Claim7.holds Tryz.pinned (.plain (OpenSpec.ofChange fnSpacedAtIsReadWrong)) fnSpacedAtIsReadCard

/-- THE TOLD AND TIED CARD OF 'laws.FnTightAtIsRead'. -/
def fnTightAtIsReadCard : Claim7 := { stood := { row := fnTightAtIsReadRow, standIns := [], harness := (true, "c63a7e70bd086f0ed9fa614d934771394bd587868b98c02e6b54e41393f63780"), looks := true }, told := true, laidByText := true, laidKinds := [.data, .data, .data, .data, .widerDeep, .pinned, .pinned], laidTests := true, laidLooks := .later, goes := false }
def FnTightAtIsReadToldSaid : Prop := Claim7.holds Tryz.pinned (.plain (OpenSpec.ofChange fnTightAtIsReadSpec)) fnTightAtIsReadCard
/-- ITS FALSE NEIGHBOUR. Refute it at one input. -/
def FnTightAtIsReadToldWrongFalsely : Prop := Claim7.holds Tryz.pinned (.plain (OpenSpec.ofChange fnTightAtIsReadWrong)) fnTightAtIsReadCard

/-- THE TOLD AND TIED CARD OF 'laws.FnDeclarationIsRead'. -/
def fnDeclarationIsReadCard : Claim7 := { stood := { row := fnDeclarationIsReadRow, standIns := [], harness := (true, "c63a7e70bd086f0ed9fa614d934771394bd587868b98c02e6b54e41393f63780"), looks := true }, told := true, laidByText := true, laidKinds := [.data, .data, .data, .data, .widerDeep, .pinned, .pinned], laidTests := true, laidLooks := .later, goes := false }
def FnDeclarationIsReadToldSaid : Prop := Claim7.holds Tryz.pinned (.plain (OpenSpec.ofChange fnDeclarationIsReadSpec)) fnDeclarationIsReadCard
/-- ITS FALSE NEIGHBOUR. Refute it at one input. -/
def FnDeclarationIsReadToldWrongFalsely : Prop := Claim7.holds Tryz.pinned (.plain (OpenSpec.ofChange fnDeclarationIsReadWrong)) fnDeclarationIsReadCard

/-- THE TOLD AND TIED CARD OF 'laws.FnImportantIsRead'. -/
def fnImportantIsReadCard : Claim7 := { stood := { row := fnImportantIsReadRow, standIns := [], harness := (true, "c63a7e70bd086f0ed9fa614d934771394bd587868b98c02e6b54e41393f63780"), looks := true }, told := true, laidByText := true, laidKinds := [.data, .data, .data, .data, .widerDeep, .pinned, .pinned], laidTests := true, laidLooks := .later, goes := false }
def FnImportantIsReadToldSaid : Prop := Claim7.holds Tryz.pinned (.plain (OpenSpec.ofChange fnImportantIsReadSpec)) fnImportantIsReadCard
/-- ITS FALSE NEIGHBOUR. Refute it at one input. -/
def FnImportantIsReadToldWrongFalsely : Prop := Claim7.holds Tryz.pinned (.plain (OpenSpec.ofChange fnImportantIsReadWrong)) fnImportantIsReadCard

/-- THE TOLD AND TIED CARD OF 'laws.FnPiecesAdd'. -/
def fnPiecesAddCard : Claim7 := { stood := { row := fnPiecesAddRow, standIns := [], harness := (true, "c63a7e70bd086f0ed9fa614d934771394bd587868b98c02e6b54e41393f63780"), looks := true }, told := true, laidByText := true, laidKinds := [.data, .data, .data, .data, .widerDeep, .pinned, .pinned], laidTests := true, laidLooks := .later, goes := false }
def FnPiecesAddToldSaid : Prop := Claim7.holds Tryz.pinned (.plain (OpenSpec.ofChange fnPiecesAddSpec)) fnPiecesAddCard
/-- ITS FALSE NEIGHBOUR. Refute it at one input. -/
def FnPiecesAddToldWrongFalsely : Prop := Claim7.holds Tryz.pinned (.plain (OpenSpec.ofChange fnPiecesAddWrong)) fnPiecesAddCard
end Rows
end Go.Proofs.YtkfdcbdlcipmfaaGreatFmt
