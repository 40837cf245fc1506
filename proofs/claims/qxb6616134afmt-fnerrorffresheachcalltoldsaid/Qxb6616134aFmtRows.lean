/-
  No cell of these rows narrows 'for every input' (looked for: loops, veiled, ifaces, maps, wideKeys, modest, calm, conditions, laid).
  DERIVED. THE GIVEN ROWS OF THIS SEAT. 1 by the template 'for every input the law returns true; each argument reads behind the call as it read before'; 0 by the template 'total and deterministic' (their statements: Qxb6616134aFmtTotals.lean).
  GIVEN WITH THE SEED: the statements are not yours to turn. If you find one false, say at which input.
  Laid BY PROGRAM, IN A SANDBOX (cutbox-rows.mjs): the forced cells as the released guide's own fill.sh prints them over the translation f4a29b544309d312… (all of the seat's roots in one cut). By AI agents, Wed Nov 11 2026. No macro, syntax, notation, axiom, sorry.
-/
import Derived.Test.Qxb6616134aFmtChecked
import GoSem.Claim
import GoSem.ClaimJoined
import GoSem.ClaimMapViews
import Derived.JoinedTies
import Derived.KernelRfl
namespace Go.Proofs.Qxb6616134aFmt
/- THE CELL 'sum', in the pinned program and in every row, IS THE sha256 OF THE DUMP (.gsa) THAT Qxb6616134aFmtProg.lean LOADS. Nothing in Lean hashes anything: it is a label: what it is worth is what the hold of that sum in a sandbox is worth. -/
noncomputable def Tryf.pinned : Pinned := { name := "qxb6616134afmt", sum := "f4a29b544309d312ec2ce6666f8b7fdacd76788c2626face4b1da54013dca69a", checked := Tryf.checked }
namespace Rows
def none {H : Type} : Left H := { results := [], args := [] }

/-- 'zzlaws_problem_b1.FnErrorfFreshEachCall': WHATEVER THE INPUT: true; the input reads as it did. -/
def fnErrorfFreshEachCallSpec : ChangeSpec := { name := "fnErrorfFreshEachCall", fn := fun _ => fun
  | [d1, d2] => { results := [.lit (.bool true)], args := [d1, d2] }
  | _ => none }
def fnErrorfFreshEachCallRow : OpenClaim := { program := "qxb6616134afmt", sum := "f4a29b544309d312ec2ce6666f8b7fdacd76788c2626face4b1da54013dca69a", func := "example.com/parcelwright/parcelwright/zzlaws_problem_b1.FnErrorfFreshEachCall", spec := "fnErrorfFreshEachCall", stops := ["fmt.Sprintf, its operands' methods called"], inPlace := ["fmt.Sprintf"], unfollowed := true, recurses := true, apart := false }
/-- NO THEOREM (fmt's text is open here; it may be false): for the released tool's asking of the row's closed facts alone. THE STATEMENT IS 'FnErrorfFreshEachCallToldSaid' (Qxb6616134aFmtCards.lean). -/
def FnErrorfFreshEachCallFormAsk : Prop := fnErrorfFreshEachCallRow.holds Tryf.pinned (OpenSpec.ofChange fnErrorfFreshEachCallSpec)

/-- ITS FALSE NEIGHBOUR: 'it returns false'. Refute it at one input. -/
def fnErrorfFreshEachCallWrong : ChangeSpec := { name := "fnErrorfFreshEachCall", fn := fun _ => fun
  | [d1, d2] => { results := [.lit (.bool false)], args := [d1, d2] }
  | _ => none }
def FnErrorfFreshEachCallWrongFormAsk : Prop := fnErrorfFreshEachCallRow.holds Tryf.pinned (OpenSpec.ofChange fnErrorfFreshEachCallWrong)

end Rows
end Go.Proofs.Qxb6616134aFmt
