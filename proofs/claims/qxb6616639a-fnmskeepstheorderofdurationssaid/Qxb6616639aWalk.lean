/-
  THE WALKS OF 'ms' AND OF ITS DOOR.
-/
import Derived.Test.Qxb6616639aRows
import Derived.Test.Qxb6616639aPlain
import Derived.WalkKit
import Derived.ProofKit
import Derived.WalkLawsBesides
namespace Go.Proofs.Qxb6616639a
open Go.ChangeShapes Go.WideShapes Go.ChangeAt Go.RowKit

theorem ms_c (a : Int) (W : Nat) (hW : Ieee.double.div (floatOfInt .f64 a) 4696837146684686336 = some W) (w : World) :
    Calls Try.prog 6 #[.int .i64 a] w fun e w' => e = .returned (.float .f64 W) ∧ w' = w := by
  have hop : ∀ t w, (binOp .quo t (.float .f64 (floatOfInt .f64 a)) (.float .f64 4696837146684686336)).run Try.prog w = .ok (.float .f64 W) w := fun t w => run_float_arith w .quo t .f64 _ _ W hW
  go_enter Try.func6, Try.ntmps6
  go_wp2_with (simp only [hop])
  all_goals (go_ret; exact ⟨rfl, rfl⟩)

theorem zzms_c (a : Int) (W : Nat) (hW : Ieee.double.div (floatOfInt .f64 a) 4696837146684686336 = some W) (w : World) :
    Calls Try.prog 5 #[.int .i64 a] w fun e w' => e = .returned (.float .f64 W) ∧ w' = w := by
  go_enter Try.func5, Try.ntmps5
  go_wp2_with fail
  refine (ms_c a W hW _).mono ?_
  rintro e w1 ⟨rfl, rfl⟩
  go_wp2
  all_goals (go_ret; exact ⟨rfl, rfl⟩)

end Go.Proofs.Qxb6616639a
