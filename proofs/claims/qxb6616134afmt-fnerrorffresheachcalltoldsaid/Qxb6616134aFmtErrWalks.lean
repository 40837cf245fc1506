/-
  THE WALKS: what each call on the road of FnErrorfFreshEachCall does to the world, for whatever F stands for fmt's text.
-/
import Derived.Test.Qxb6616134aFmtErrFacts
import Derived.LaidEqlPtr
namespace Go.Proofs.Qxb6616134aFmt
open Go.RowKit Go.Extern.Stop Go.Stop Go.Extern
attribute [local go_sem] Tryf.call7 Tryf.guard

/-- The size guard: do the two lengths sum to at most 2 ^ 20? -/
theorem bytes_no (a b : ByteArray) (w : World) (h : 1048576 < a.size + b.size) :
    Calls Tryf.prog 4 #[.string a, .string b] w fun e w' => e = .returned (.bool false) ∧ w' = w := by
  go_enter Tryf.func4, Tryf.ntmps4
  go_wp2
  all_goals (first | (go_ret; exact ⟨rfl, rfl⟩) | (exfalso; omega))

theorem bytes_yes (a b : ByteArray) (w : World) (h : a.size + b.size ≤ 1048576) :
    Calls Tryf.prog 4 #[.string a, .string b] w fun e w' => e = .returned (.bool true) ∧ w' = w := by
  go_enter Tryf.func4, Tryf.ntmps4
  go_wp2
  all_goals (first | (go_ret; exact ⟨rfl, rfl⟩) | (exfalso; omega))

/-- What fmt.Sprintf answers with no operands. -/
def said (F : Interp) (f : ByteArray) : ByteArray := FmtStop.textOf (F "fmt.Sprintf" [f.data.toList] 0)

set_option maxHeartbeats 800000 in
theorem errorf_new (F : Interp) (c f : ByteArray) (w : World) (hF : F.answers w.tape) :
    Calls Tryf.prog 6 #[.string c, .string f, .slice none 0 0] w fun e w' => e = .returned (.iface 23 (.pointer (some ⟨w.heap.size, 0, none⟩))) ∧
      w' = (w.alloc (.cells #[.string c, .string (said F f)] 27)).drew := by
  have hF' := answers_open hF
  go_enter Tryf.func6, Tryf.ntmps6
  rcases printed_zero f with hp | hp
  · go_wp2
    go_ret
    exact ⟨rfl, rfl⟩
  · go_wp2
    apply rows_value Tryf.nextTurns
    case hr =>
      go_simp
      exact ⟨rfl, rfl⟩
    case h =>
      go_wp2
      go_ret
      exact ⟨rfl, rfl⟩

/-- The error is an *Error: the assertion gives its pointer. -/
theorem assert_err (v : Value) (xT : TypeId) (w : World) : (Instr.typeAssert (.iface 23 v) xT 23 true).run Tryf.prog w = .ok (.tuple #[v, .bool true]) w := by
  kernel_rfl

set_option maxHeartbeats 800000 in
theorem noArgs_new (F : Interp) (c f : ByteArray) (w : World) (hF : F.answers w.tape) :
    Calls Tryf.prog 5 #[.string c, .string f] w fun e w' => e = .returned (.pointer (some ⟨w.heap.size, 0, none⟩)) ∧
      w' = (w.alloc (.cells #[.string c, .string (said F f)] 27)).drew := by
  have hA := assert_err
  go_enter Tryf.func5, Tryf.ntmps5
  go_wp2_with (first | (go_at_call 6; refine (errorf_new F c f _ (by exact hF)).mono ?_; rintro e w' ⟨rfl, rfl⟩))
  go_ret
  exact ⟨rfl, rfl⟩

end Go.Proofs.Qxb6616134aFmt
