/-
  THE LAW's OWN WALK: FnErrorfFreshEachCall returns true, whatever F stands for fmt's text.
-/
import Derived.Test.Qxb6616134aFmtErrWalks
namespace Go.Proofs.Qxb6616134aFmt
open Go.RowKit Go.Extern.Stop Go.Stop Go.Extern

/-- Too long: true at once. -/
theorem fresh_long (c f : ByteArray) (w : World) (h : 1048576 < c.size + f.size) :
    Calls Tryf.prog 3 #[.string c, .string f] w fun e w' => e = .returned (.bool true) ∧ Grown w w' := by
  go_enter Tryf.func3, Tryf.ntmps3
  go_wp2_with (first | (go_at_call 4; refine (bytes_no c f _ h).mono ?_; rintro e w' ⟨rfl, rfl⟩))
  go_ret
  exact ⟨rfl, Grown.refl _⟩

/-- Two new blocks lie at two addresses. -/
theorem eql_new (w : World) (A B : Array Value) :
    (binOp .eql 23 (.pointer (some ⟨w.heap.size, 0, none⟩)) (.pointer (some ⟨w.heap.size + 1, 0, none⟩))).run Tryf.prog ((w.alloc (.cells A 27)).alloc (.cells B 27)).drew.drew
      = .ok (.bool false) ((w.alloc (.cells A 27)).alloc (.cells B 27)).drew.drew := by
  refine run_eql_ptr_other (te := 27) (j := (Tryf.prog.types[27]?).getD default) (ca := A) (cb := B) (ta := 27) (tb := 27) _ Tryf.underlying23 (by kernel_rfl) (of_decide_eq_true (by kernel_rfl)) (by simp) ?_ ?_
  · show (((w.heap.push _).push _))[w.heap.size]? = _
    simp [Array.getElem?_push]
  · show (((w.heap.push _).push _))[w.heap.size + 1]? = _
    rw [Array.getElem?_push, if_pos (by simp)]

set_option maxHeartbeats 800000 in
theorem fresh_short (F : Interp) (c f : ByteArray) (w : World) (hF : F.answers w.tape) (h : c.size + f.size ≤ 1048576) :
    Calls Tryf.prog 3 #[.string c, .string f] w fun e w' => e = .returned (.bool true) ∧ Grown w w' := by
  have he := fun A B => eql_new w A B
  go_enter Tryf.func3, Tryf.ntmps3
  go_wp2_with (first
    | (go_at_call 4; refine (bytes_yes c f _ h).mono ?_; rintro e w' ⟨rfl, rfl⟩)
    | (go_at_call 5; refine (noArgs_new F c f _ (by exact hF)).mono ?_; rintro e w' ⟨rfl, rfl⟩))
  go_ret
  exact ⟨rfl, (((Grown.refl _).alloc _ _).alloc _ _).drew.drew⟩

end Go.Proofs.Qxb6616134aFmt
