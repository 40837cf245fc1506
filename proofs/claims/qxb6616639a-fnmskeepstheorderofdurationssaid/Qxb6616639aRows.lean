/-
  No cell of these rows narrows 'for every input' (looked for: loops, veiled, ifaces, maps, wideKeys, modest, calm, conditions, laid).
  DERIVED. THE GIVEN ROWS OF THIS SEAT. 2 by the template 'for every input the law returns true; each argument reads behind the call as it read before'; 0 by the template 'total and deterministic' (their statements: Qxb6616639aTotals.lean).
  GIVEN WITH THE SEED: the statements are not yours to turn. If you find one false, say at which input.
  Laid BY PROGRAM, IN A SANDBOX (cutbox-rows.mjs): the forced cells as the released guide's own fill.sh prints them over the translation 0ba1066a7256622e… (all of the seat's roots in one cut). By AI agents, Wed Nov 11 2026. No macro, syntax, notation, axiom, sorry.
-/
import Derived.Test.Qxb6616639aChecked
import GoSem.Claim
import GoSem.ClaimJoined
import GoSem.ClaimMapViews
import Derived.JoinedTies
import Derived.KernelRfl
namespace Go.Proofs.Qxb6616639a
/- THE CELL 'sum', in the pinned program and in every row, IS THE sha256 OF THE DUMP (.gsa) THAT Qxb6616639aProg.lean LOADS. Nothing in Lean hashes anything: it is a label: what it is worth is what the hold of that sum in a sandbox is worth. -/
noncomputable def Try.pinned : Pinned := { name := "qxb6616639a", sum := "0ba1066a7256622ea3f464c5ebdc5b0f2f7b442fbfe27ab466012d8ea10c43e5", checked := Try.checked }
namespace Rows
def none {H : Type} : Left H := { results := [], args := [] }

/-- 'zzlaws_pkg_load_b1.FnMsIsTheMillisecondCount': WHATEVER THE INPUT: true; the input reads as it did. -/
def fnMsIsTheMillisecondCountSpec : ChangeSpec := { name := "fnMsIsTheMillisecondCount", fn := fun _ => fun
  | [d] => { results := [.lit (.bool true)], args := [d] }
  | _ => none }
def fnMsIsTheMillisecondCountRow : OpenClaim := { program := "qxb6616639a", sum := "0ba1066a7256622ea3f464c5ebdc5b0f2f7b442fbfe27ab466012d8ea10c43e5", func := "example.com/gatewright/gatewright/zzlaws_pkg_load_b1.FnMsIsTheMillisecondCount", spec := "fnMsIsTheMillisecondCount", apart := false }
def FnMsIsTheMillisecondCountSaid : Prop := fnMsIsTheMillisecondCountRow.holds Try.pinned (OpenSpec.ofChange fnMsIsTheMillisecondCountSpec)

/-- ITS FALSE NEIGHBOUR: 'it returns false'. Refute it at one input. -/
def fnMsIsTheMillisecondCountWrong : ChangeSpec := { name := "fnMsIsTheMillisecondCount", fn := fun _ => fun
  | [d] => { results := [.lit (.bool false)], args := [d] }
  | _ => none }
def FnMsIsTheMillisecondCountWrongFalsely : Prop := fnMsIsTheMillisecondCountRow.holds Try.pinned (OpenSpec.ofChange fnMsIsTheMillisecondCountWrong)

/-- 'zzlaws_pkg_load_b1.FnMsKeepsTheOrderOfDurations': WHATEVER THE INPUT: true; the input reads as it did. -/
def fnMsKeepsTheOrderOfDurationsSpec : ChangeSpec := { name := "fnMsKeepsTheOrderOfDurations", fn := fun _ => fun
  | [d1, d2] => { results := [.lit (.bool true)], args := [d1, d2] }
  | _ => none }
def fnMsKeepsTheOrderOfDurationsRow : OpenClaim := { program := "qxb6616639a", sum := "0ba1066a7256622ea3f464c5ebdc5b0f2f7b442fbfe27ab466012d8ea10c43e5", func := "example.com/gatewright/gatewright/zzlaws_pkg_load_b1.FnMsKeepsTheOrderOfDurations", spec := "fnMsKeepsTheOrderOfDurations", apart := false }
def FnMsKeepsTheOrderOfDurationsSaid : Prop := fnMsKeepsTheOrderOfDurationsRow.holds Try.pinned (OpenSpec.ofChange fnMsKeepsTheOrderOfDurationsSpec)

/-- ITS FALSE NEIGHBOUR: 'it returns false'. Refute it at one input. -/
def fnMsKeepsTheOrderOfDurationsWrong : ChangeSpec := { name := "fnMsKeepsTheOrderOfDurations", fn := fun _ => fun
  | [d1, d2] => { results := [.lit (.bool false)], args := [d1, d2] }
  | _ => none }
def FnMsKeepsTheOrderOfDurationsWrongFalsely : Prop := fnMsKeepsTheOrderOfDurationsRow.holds Try.pinned (OpenSpec.ofChange fnMsKeepsTheOrderOfDurationsWrong)

end Rows
end Go.Proofs.Qxb6616639a
