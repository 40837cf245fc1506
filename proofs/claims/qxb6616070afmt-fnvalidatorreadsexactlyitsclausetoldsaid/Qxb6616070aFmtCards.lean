/-
  DERIVED. GIVEN WITH THE SEED: THE CARDS: each row of Qxb6616070aFmtRows.lean that lists a variable, with what it lists TIED to the program's text (the seventh form; the later family's looks); each row that meets fmt, with fmt's text TOLD by the authors' own Lean function (tested against real Go, not proved from fmt's source: count such statements apart). THE CARD IS WHAT COUNTS. Prove the row's statement (the work); the ties are given (Qxb6616070aFmtTie.lean); close each card by the builder's one call (the guide's Derived/Test/ToyasCard.lean, 'card_holds'). Laid BY PROGRAM, IN A SANDBOX (cutbox-door.mjs). By AI agents, Wed Nov 11 2026. No macro, syntax, notation, axiom, sorry.
-/
import Derived.Test.Qxb6616070aFmtRows
import GoSem.ClaimSeven
namespace Go.Proofs.Qxb6616070aFmt
namespace Rows

/-- THE TOLD AND TIED CARD OF 'zzlaws_internal_parser_b1.FnValidatorReadsExactlyItsClause'. -/
def fnValidatorReadsExactlyItsClauseCard : Claim7 := { stood := { row := fnValidatorReadsExactlyItsClauseRow, standIns := [], harness := (true, "6057ac331c60ac21cee79c0fc8a3aad93926c0d38cfc637c6ed5034b6268ebf4"), looks := true }, told := true, laidByText := true, laidKinds := [.calledDeep], laidTests := true, laidLooks := .later, goes := false }
def FnValidatorReadsExactlyItsClauseToldSaid : Prop := Claim7.holds Tryf.pinned (.plain (OpenSpec.ofChange fnValidatorReadsExactlyItsClauseSpec)) fnValidatorReadsExactlyItsClauseCard
/-- ITS FALSE NEIGHBOUR. Refute it at one input. -/
def FnValidatorReadsExactlyItsClauseToldWrongFalsely : Prop := Claim7.holds Tryf.pinned (.plain (OpenSpec.ofChange fnValidatorReadsExactlyItsClauseWrong)) fnValidatorReadsExactlyItsClauseCard

/-- THE TOLD AND TIED CARD OF 'zzlaws_internal_parser_b1.FnValidatorIgnoresWhatCameBefore'. -/
def fnValidatorIgnoresWhatCameBeforeCard : Claim7 := { stood := { row := fnValidatorIgnoresWhatCameBeforeRow, standIns := [], harness := (true, "6057ac331c60ac21cee79c0fc8a3aad93926c0d38cfc637c6ed5034b6268ebf4"), looks := true }, told := true, laidByText := true, laidKinds := [.calledDeep], laidTests := true, laidLooks := .later, goes := false }
def FnValidatorIgnoresWhatCameBeforeToldSaid : Prop := Claim7.holds Tryf.pinned (.plain (OpenSpec.ofChange fnValidatorIgnoresWhatCameBeforeSpec)) fnValidatorIgnoresWhatCameBeforeCard
/-- ITS FALSE NEIGHBOUR. Refute it at one input. -/
def FnValidatorIgnoresWhatCameBeforeToldWrongFalsely : Prop := Claim7.holds Tryf.pinned (.plain (OpenSpec.ofChange fnValidatorIgnoresWhatCameBeforeWrong)) fnValidatorIgnoresWhatCameBeforeCard

/-- THE TOLD AND TIED CARD OF 'zzlaws_internal_parser_b1.FnEscapeDecodesAsDocumented'. -/
def fnEscapeDecodesAsDocumentedCard : Claim7 := { stood := { row := fnEscapeDecodesAsDocumentedRow, standIns := [], harness := (true, "6057ac331c60ac21cee79c0fc8a3aad93926c0d38cfc637c6ed5034b6268ebf4"), looks := true }, told := true, laidByText := true, laidKinds := [.data, .data, .data, .sentinel, .sentinel], laidTests := true, laidLooks := .later, goes := false }
def FnEscapeDecodesAsDocumentedToldSaid : Prop := Claim7.holds Tryf.pinned (.plain (OpenSpec.ofChange fnEscapeDecodesAsDocumentedSpec)) fnEscapeDecodesAsDocumentedCard
/-- ITS FALSE NEIGHBOUR. Refute it at one input. -/
def FnEscapeDecodesAsDocumentedToldWrongFalsely : Prop := Claim7.holds Tryf.pinned (.plain (OpenSpec.ofChange fnEscapeDecodesAsDocumentedWrong)) fnEscapeDecodesAsDocumentedCard

/-- THE TOLD AND TIED CARD OF 'zzlaws_internal_parser_b1.FnEscapeIgnoresTextBefore'. -/
def fnEscapeIgnoresTextBeforeCard : Claim7 := { stood := { row := fnEscapeIgnoresTextBeforeRow, standIns := [], harness := (true, "6057ac331c60ac21cee79c0fc8a3aad93926c0d38cfc637c6ed5034b6268ebf4"), looks := true }, told := true, laidByText := true, laidKinds := [.data, .data, .data, .sentinel, .sentinel], laidTests := true, laidLooks := .later, goes := false }
def FnEscapeIgnoresTextBeforeToldSaid : Prop := Claim7.holds Tryf.pinned (.plain (OpenSpec.ofChange fnEscapeIgnoresTextBeforeSpec)) fnEscapeIgnoresTextBeforeCard
/-- ITS FALSE NEIGHBOUR. Refute it at one input. -/
def FnEscapeIgnoresTextBeforeToldWrongFalsely : Prop := Claim7.holds Tryf.pinned (.plain (OpenSpec.ofChange fnEscapeIgnoresTextBeforeWrong)) fnEscapeIgnoresTextBeforeCard
end Rows
end Go.Proofs.Qxb6616070aFmt
