/-
  The closed facts of fmt's stopped front in this dump (function 7: fmt.Sprintf, its operands' methods called), after the guide's worked Fmt texts; and what the front gives with no operands, whatever the format.
-/
import Derived.Test.Qxb6616134aFmtRows
import Derived.Stop.CallBack
import Derived.Stop.IfaceNil
import Derived.WalkKit
import Derived.WalkSpells
namespace Go.Proofs.Qxb6616134aFmt
open Go.Extern.Stop Go.Stop Go.Extern

theorem Tryf.call7 (args : Array Value) (w : World) : (callFunc 7 args).run Tryf.prog w = (FmtCalls.sprintf #[9, 32] #[9] args).run Tryf.prog w :=
  run_callFunc_next Tryf.func7 (by kernel_rfl) (by kernel_rfl) (by kernel_rfl) args w
theorem Tryf.guard (name : String) (w : World) : (FmtStop.guard name).run Tryf.prog w = .ok () w := by kernel_rfl
theorem Tryf.nextTurns : Extern.next FmtCalls.turnsRow = some (FmtCalls.begun #[] #[]) := by kernel_rfl

/-- With no operands the walk over a format books none. -/
theorem walk_zero : ∀ (fuel : Nat) (k : Nat) (f : List UInt8) (acc : List (Nat × UInt8 × Bool)) (r : List (Nat × UInt8 × Bool) × Nat),
    FmtDoors.walk 0 fuel k f acc = some r → r = (acc, k)
  | 0, _, _, _, _, h => by simp [FmtDoors.walk] at h
  | fuel + 1, k, [], acc, r, h => by simp [FmtDoors.walk] at h; exact h.symm
  | fuel + 1, k, c :: rest, acc, r, h => by
    rw [FmtDoors.walk] at h
    split at h
    · exact walk_zero fuel k _ acc r h
    · revert h
      generalize FmtDoors.flags rest false = fl
      obtain ⟨sharp, r1⟩ := fl
      simp only
      cases FmtDoors.number 6 r1 with
      | none => intro h; cases h
      | some r2 =>
        simp only
        split
        · intro h; cases h
        · intro h; exact (Option.some.inj h).symm
        · rename_i v r3 _
          split
          · intro h; cases h
          · rw [if_pos (by simp)]
            exact walk_zero fuel k r3 acc r

theorem printed_zero (f : ByteArray) : FmtStop.printed? f 0 = none ∨ FmtStop.printed? f 0 = some [] := by
  unfold FmtStop.printed?
  cases h : FmtDoors.walk 0 (f.size + 1) 0 f.data.toList [] with
  | none => exact .inl rfl
  | some r =>
    right
    have := walk_zero _ _ _ _ _ h
    subst this
    rfl

end Go.Proofs.Qxb6616134aFmt
