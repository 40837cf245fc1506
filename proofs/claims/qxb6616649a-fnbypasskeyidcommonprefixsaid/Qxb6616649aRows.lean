/-
  No cell of these rows narrows 'for every input' (looked for: loops, veiled, ifaces, maps, wideKeys, modest, calm, conditions, laid).
  DERIVED. THE GIVEN ROWS OF THIS SEAT. 2 by the template 'for every input the law returns true; each argument reads behind the call as it read before'; 0 by the template 'total and deterministic' (their statements: Qxb6616649aTotals.lean).
  GIVEN WITH THE SEED: the statements are not yours to turn. If you find one false, say at which input.
  Laid BY PROGRAM, IN A SANDBOX (cutbox-rows.mjs): the forced cells as the released guide's own fill.sh prints them over the translation eec39fc14ab088c0… (all of the seat's roots in one cut). By AI agents, Wed Nov 11 2026. No macro, syntax, notation, axiom, sorry.
-/
import Derived.Test.Qxb6616649aChecked
import GoSem.Claim
import GoSem.ClaimJoined
import GoSem.ClaimMapViews
import Derived.JoinedTies
import Derived.KernelRfl
namespace Go.Proofs.Qxb6616649a
/- THE CELL 'sum', in the pinned program and in every row, IS THE sha256 OF THE DUMP (.gsa) THAT Qxb6616649aProg.lean LOADS. Nothing in Lean hashes anything: it is a label: what it is worth is what the hold of that sum in a sandbox is worth. -/
noncomputable def Try.pinned : Pinned := { name := "qxb6616649a", sum := "eec39fc14ab088c0f46af9541262c331e80de7a4663bc394dde98340569406c0", checked := Try.checked }
namespace Rows
def none {H : Type} : Left H := { results := [], args := [] }

/-- 'zzlaws_memstore_b1.FnByPasskeyIDOrdersIDsByteByByte': WHATEVER THE INPUT: true; the input reads as it did. -/
def fnByPasskeyIDOrdersIDsByteByByteSpec : ChangeSpec := { name := "fnByPasskeyIDOrdersIDsByteByByte", fn := fun _ => fun
  | [d1, d2, d3, d4, d5] => { results := [.lit (.bool true)], args := [d1, d2, d3, d4, d5] }
  | _ => none }
def fnByPasskeyIDOrdersIDsByteByByteRow : OpenClaim := { program := "qxb6616649a", sum := "eec39fc14ab088c0f46af9541262c331e80de7a4663bc394dde98340569406c0", func := "example.com/many-doors/many-doors/zzlaws_memstore_b1.FnByPasskeyIDOrdersIDsByteByByte", spec := "fnByPasskeyIDOrdersIDsByteByByte", inPlace := ["internal/bytealg.Compare"], apart := false }
def FnByPasskeyIDOrdersIDsByteByByteSaid : Prop := fnByPasskeyIDOrdersIDsByteByByteRow.holds Try.pinned (OpenSpec.ofChange fnByPasskeyIDOrdersIDsByteByByteSpec)

/-- ITS FALSE NEIGHBOUR: 'it returns false'. Refute it at one input. -/
def fnByPasskeyIDOrdersIDsByteByByteWrong : ChangeSpec := { name := "fnByPasskeyIDOrdersIDsByteByByte", fn := fun _ => fun
  | [d1, d2, d3, d4, d5] => { results := [.lit (.bool false)], args := [d1, d2, d3, d4, d5] }
  | _ => none }
def FnByPasskeyIDOrdersIDsByteByByteWrongFalsely : Prop := fnByPasskeyIDOrdersIDsByteByByteRow.holds Try.pinned (OpenSpec.ofChange fnByPasskeyIDOrdersIDsByteByByteWrong)

/-- 'zzlaws_memstore_b1.FnByPasskeyIDCommonPrefix': WHATEVER THE INPUT: true; the input reads as it did. -/
def fnByPasskeyIDCommonPrefixSpec : ChangeSpec := { name := "fnByPasskeyIDCommonPrefix", fn := fun _ => fun
  | [d1, d2, d3, d4, d5, d6] => { results := [.lit (.bool true)], args := [d1, d2, d3, d4, d5, d6] }
  | _ => none }
def fnByPasskeyIDCommonPrefixRow : OpenClaim := { program := "qxb6616649a", sum := "eec39fc14ab088c0f46af9541262c331e80de7a4663bc394dde98340569406c0", func := "example.com/many-doors/many-doors/zzlaws_memstore_b1.FnByPasskeyIDCommonPrefix", spec := "fnByPasskeyIDCommonPrefix", inPlace := ["internal/bytealg.Compare"], apart := false }
def FnByPasskeyIDCommonPrefixSaid : Prop := fnByPasskeyIDCommonPrefixRow.holds Try.pinned (OpenSpec.ofChange fnByPasskeyIDCommonPrefixSpec)

/-- ITS FALSE NEIGHBOUR: 'it returns false'. Refute it at one input. -/
def fnByPasskeyIDCommonPrefixWrong : ChangeSpec := { name := "fnByPasskeyIDCommonPrefix", fn := fun _ => fun
  | [d1, d2, d3, d4, d5, d6] => { results := [.lit (.bool false)], args := [d1, d2, d3, d4, d5, d6] }
  | _ => none }
def FnByPasskeyIDCommonPrefixWrongFalsely : Prop := fnByPasskeyIDCommonPrefixRow.holds Try.pinned (OpenSpec.ofChange fnByPasskeyIDCommonPrefixWrong)

end Rows
end Go.Proofs.Qxb6616649a
