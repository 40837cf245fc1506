/-
  nearToken, errorAtNext, unexpected: the error 42601 at the next token.
-/
import Derived.Test.Qxb6616070aFmtPErr
import Derived.Deep.RegionWith
namespace Go.Proofs.Qxb6616070aFmt
open Go.RowKit Go.Extern.Stop Go.Stop Go.Extern

theorem below_undrew {w w1 : World} (hb : Below w.drew.heap.size w.drew w1) : Below w.heap.size w w1 := ⟨hb.os, hb.tape, hb.output, hb.size, hb.block⟩

set_option maxHeartbeats 800000 in
theorem nearToken_end (F : Interp) (w : World) (hF : F.answers w.tape) (src what : ByteArray) (t : Tok) (h0 : 0 ≤ t.pos) (h1 : t.pos = src.size) (h3 : src.size ≤ 1048576) :
    Calls Tryf.prog 54 #[.string src, t.val, .string what] w fun e w' => ∃ g, e = .returned (.iface 72 (.pointer (some ⟨g, 0, none⟩))) ∧ Failed w w' g t.pos := by
  obtain ⟨tk0, tx0, tp0, te0⟩ := t
  simp only at h0 h1
  subst h1
  unfold Tok.val
  go_enter Tryf.func54, Tryf.ntmps54
  go_wp2_with fail
  refine (at_end F _ (by exact hF) src.size (by omega) (by omega) (w.heap.size + 1) what ?_).mono ?_
  · go_simp
  · rintro e w1 ⟨g, rfl, hE⟩
    have HB : Hid (Failed w w1 g src.size) := hE.after (((Below.refl _ w).alloc (Nat.le_refl _) _).alloc (by simp) _)
    clear hE
    go_wp2_with fail
    go_ret
    exact ⟨g, rfl, HB.out⟩

set_option maxHeartbeats 800000 in
theorem nearToken_near (F : Interp) (w : World) (hF : F.answers w.tape) (src what : ByteArray) (t : Tok) (h0 : 0 ≤ t.pos) (h1 : t.pos ≤ t.stop) (h2 : t.stop ≤ src.size) (h4 : t.pos ≠ src.size) (h3 : src.size ≤ 1048576) :
    Calls Tryf.prog 54 #[.string src, t.val, .string what] w fun e w' => ∃ g, e = .returned (.iface 72 (.pointer (some ⟨g, 0, none⟩))) ∧ Failed w w' g t.pos := by
  obtain ⟨tk0, tx0, tp0, te0⟩ := t
  simp only at h0 h1 h2 h4
  unfold Tok.val
  have hne : (tp0 == (src.size : Int)) = false := by simpa using h4
  go_enter Tryf.func54, Tryf.ntmps54
  go_wp2_with fail
  go_region_with (first
    | (go_at_call 68; go_must (refine (at_near F _ (by exact hF) tp0 (by omega) (by omega) (w.heap.size + 1) what (src.extract tp0.toNat te0.toNat) (by go_simp) (by go_simp)).mono ?_); rintro e w1 ⟨g, rfl, hE⟩; have HB : Hid (Failed w w1 g tp0) := hE.after (((Below.refl _ w).alloc (Nat.le_refl _) _).alloc (by simp) _).drew; clear hE))
  all_goals go_wp2
  all_goals (go_ret; exact ⟨_, rfl, HB.out⟩)

/-- nearToken, whichever way. -/
theorem nearToken_c (F : Interp) (w : World) (hF : F.answers w.tape) (src what : ByteArray) (t : Tok) (h0 : 0 ≤ t.pos) (h1 : t.pos ≤ t.stop) (h2 : t.stop ≤ src.size) (h3 : src.size ≤ 1048576) :
    Calls Tryf.prog 54 #[.string src, t.val, .string what] w fun e w' => ∃ g, e = .returned (.iface 72 (.pointer (some ⟨g, 0, none⟩))) ∧ Failed w w' g t.pos := by
  by_cases h4 : t.pos = src.size
  · exact nearToken_end F w hF src what t h0 h4 h3
  · exact nearToken_near F w hF src what t h0 h1 h2 h4 h3

end Go.Proofs.Qxb6616070aFmt
