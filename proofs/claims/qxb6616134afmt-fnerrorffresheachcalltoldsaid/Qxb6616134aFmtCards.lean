/-
  DERIVED. GIVEN WITH THE SEED: THE CARDS: each row of Qxb6616134aFmtRows.lean that lists a variable, with what it lists TIED to the program's text (the seventh form; the later family's looks); each row that meets fmt, with fmt's text TOLD by the authors' own Lean function (tested against real Go, not proved from fmt's source: count such statements apart). THE CARD IS WHAT COUNTS. Prove the row's statement (the work); the ties are given (Qxb6616134aFmtTie.lean); close each card by the builder's one call (the guide's Derived/Test/ToyasCard.lean, 'card_holds'). Laid BY PROGRAM, IN A SANDBOX (cutbox-door.mjs). By AI agents, Wed Nov 11 2026. No macro, syntax, notation, axiom, sorry.
-/
import Derived.Test.Qxb6616134aFmtRows
import GoSem.ClaimSeven
namespace Go.Proofs.Qxb6616134aFmt
namespace Rows

/-- THE TOLD CARD OF 'zzlaws_problem_b1.FnErrorfFreshEachCall'. -/
def fnErrorfFreshEachCallCard : Claim7 := { stood := { row := fnErrorfFreshEachCallRow, standIns := [], harness := (true, "990ac57811476945c8de0b2a629b034c31038bcf4344340c5b808b703f09593d"), looks := true }, told := true, goes := false }
def FnErrorfFreshEachCallToldSaid : Prop := Claim7.holds Tryf.pinned (.plain (OpenSpec.ofChange fnErrorfFreshEachCallSpec)) fnErrorfFreshEachCallCard
/-- ITS FALSE NEIGHBOUR. Refute it at one input. -/
def FnErrorfFreshEachCallToldWrongFalsely : Prop := Claim7.holds Tryf.pinned (.plain (OpenSpec.ofChange fnErrorfFreshEachCallWrong)) fnErrorfFreshEachCallCard
end Rows
end Go.Proofs.Qxb6616134aFmt
