import Derived.Test.Qxb6616070aFmtPTok
import Derived.RegionTactic
import Derived.ChangeAlike
import Derived.BigRegion
import Derived.Deep.QuietTactic
import Derived.BigQuiet
namespace Go.Proofs.Qxb6616070aFmt
open Go.RowKit

theorem below_drewN {B : Nat} {a w : World} (h : Below B a w) (n : Nat) : Below B a (w.drewN n) := ⟨h.os, h.tape, h.output, h.size, h.block⟩

/-- A new row of four cells, written. -/
theorem belowNew4 (w : World) (o : Obj) (n : Nat) (a b c d : Value) : Below w.heap.size w
    (((((w.alloc o).drewN n).setCell ⟨w.heap.size, 0, none⟩ a).setCell ⟨w.heap.size, 1, none⟩ b).setCell ⟨w.heap.size, 2, none⟩ c |>.setCell ⟨w.heap.size, 3, none⟩ d) :=
  (((((below_drewN ((Below.refl _ w).alloc (Nat.le_refl _) o) n).setCell (Nat.le_refl _) a).setCell (Nat.le_refl _) b).setCell (Nat.le_refl _) c).setCell (Nat.le_refl _) d)

set_option maxHeartbeats 400000 in
theorem peekAt_in (w : World) (pb tb : Nat) (src : ByteArray) (ts : List Tok) (i k : Nat) (h : AtTok w pb tb src ts i) (hk : i + k < ts.length) :
    Calls Tryf.prog 77 #[.pointer (some ⟨pb, 0, none⟩), .int .i64 k] w fun e w' => e = .returned (tk ts (i + k)).val ∧ Below w.heap.size w w' := by
  have h1 := h.ctoks
  have h2 := h.cat
  have h3 := h.ok.short
  have k0 := h.ckind (i + k) hk
  have k1 := h.ctext (i + k) hk
  have k2 := h.cpos (i + k) hk
  have k3 := h.cstop (i + k) hk
  have hpin := h.pin
  have htin := h.tin
  go_enter Tryf.func77, Tryf.ntmps77
  go_wp2
  go_quiet (fail)
  go_wp2
  go_region
  all_goals go_wp2
  all_goals (refine bodyPost_ret (v := (tk ts (i + k)).val) (by simp [results, Tryf.results77, go_sem, Tok.val]) rfl ?_)
  exact ⟨rfl, belowNew4 _ _ _ _ _ _ _⟩

set_option maxHeartbeats 400000 in
theorem peekAt_out (w : World) (pb tb : Nat) (src : ByteArray) (ts : List Tok) (i k : Nat) (h : AtTok w pb tb src ts i) (hk : ts.length ≤ i + k) (hk1 : k ≤ 1048576) :
    Calls Tryf.prog 77 #[.pointer (some ⟨pb, 0, none⟩), .int .i64 k] w fun e w' => e = .returned (tk ts (ts.length - 1)).val ∧ Below w.heap.size w w' := by
  have h1 := h.ctoks
  have h2 := h.cat
  have h3 := h.ok.short
  have h4 := h.ok.ne
  have h5 := h.place
  have k0 := h.ckind (ts.length - 1) (by omega)
  have k1 := h.ctext (ts.length - 1) (by omega)
  have k2 := h.cpos (ts.length - 1) (by omega)
  have k3 := h.cstop (ts.length - 1) (by omega)
  have hpin := h.pin
  have htin := h.tin
  generalize tk ts (ts.length - 1) = t at *
  generalize ts.length = n at *
  go_enter Tryf.func77, Tryf.ntmps77
  go_wp2
  go_quiet (fail)
  go_wp2
  go_region
  all_goals go_wp2
  all_goals (refine bodyPost_ret (v := t.val) (by simp [results, Tryf.results77, go_sem, Tok.val]) rfl ?_)
  exact ⟨rfl, belowNew4 _ _ _ _ _ _ _⟩

/-- peekAt: the token k places ahead, or the last one. -/
theorem peekAt_c (w : World) (pb tb : Nat) (src : ByteArray) (ts : List Tok) (i : Nat) (h : AtTok w pb tb src ts i) (k : Int) (h0 : 0 ≤ k) (h1 : k ≤ 1) :
    Calls Tryf.prog 77 #[.pointer (some ⟨pb, 0, none⟩), .int .i64 k] w fun e w' => e = .returned (tokAt ts (i + k.toNat)).val ∧ Below w.heap.size w w' := by
  obtain ⟨m, rfl⟩ := Int.eq_ofNat_of_zero_le h0
  rw [Int.toNat_natCast]
  unfold tokAt
  by_cases hk : i + m < ts.length
  · rw [if_pos hk]
    exact peekAt_in w pb tb src ts i m h hk
  · rw [if_neg hk]
    exact peekAt_out w pb tb src ts i m h (by omega) (by omega)

end Go.Proofs.Qxb6616070aFmt
