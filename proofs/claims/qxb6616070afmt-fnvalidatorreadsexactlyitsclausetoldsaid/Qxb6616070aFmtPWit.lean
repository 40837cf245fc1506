/-
  ONE START THAT FITS: the settled world with the table reserved laid in a new block.
-/
import Derived.Test.Qxb6616070aFmtPRes
import Derived.Deep.DeepWitnessRef
import Derived.LaidMore
import Derived.Stop.JoinedTold
namespace Go.Proofs.Qxb6616070aFmt
open Go.RowKit

/-- The table's entries, in order. -/
def resEntries : Array MapEntry := (resWords.zipIdx.map fun x => { key := .string ⟨x.1.toArray⟩, val := .bool true, born := x.2 }).toArray

/-- A heap with the table at its end, and the variable leading to it. -/
def withRes (h : Array Obj) : Array Obj := (h.push (.map resEntries 100)).modify 3 fun
  | .cells _ t fr => .cells #[.map (some h.size)] t fr
  | o => o

theorem wit_met (os : Os) (args : Array Value) :
    laidMetH Tryf.prog Rows.fnValidatorIgnoresWhatCameBeforeRow.laid (({ World.settled Tryf.prog os with heap := withRes (World.settled Tryf.prog os).heap } : World).forCall (fun _ _ => 0) ⟨#[], args, []⟩).memory :=
  laidMetH_of_parts3 (fuel := 8) (laidMet_of_run' 8 (by kernel_rfl) (by kernel_rfl)) (by kernel_rfl) (by kernel_rfl)

end Go.Proofs.Qxb6616070aFmt
