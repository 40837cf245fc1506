/-
  errorAtNext, unexpected.
-/
import Derived.Test.Qxb6616070aFmtPNear
namespace Go.Proofs.Qxb6616070aFmt
open Go.RowKit Go.Extern.Stop Go.Stop Go.Extern

set_option maxHeartbeats 800000 in
theorem errorAtNext_c (F : Interp) (w : World) (hF : F.answers w.tape) (pb tb : Nat) (src : ByteArray) (ts : List Tok) (i : Nat) (h : AtTok w pb tb src ts i) (what : ByteArray) :
    Calls Tryf.prog 67 #[.pointer (some ⟨pb, 0, none⟩), .string what] w fun e w' => ∃ g, e = .returned (.iface 72 (.pointer (some ⟨g, 0, none⟩))) ∧ Failed w w' g (tk ts i).pos := by
  have hk9 : ((tk ts i).kind == 9) = false := by
    have := h.ok.low i
    simp
    omega
  have hf0 := tokField0
  go_enter Tryf.func67, Tryf.ntmps67
  go_wp2_with fail
  refine (peek_c _ pb tb src ts i (by exact h)).mono ?_
  rintro e w1 ⟨rfl, hb⟩
  rw [tokAt_in h.place]
  simp only [Tok.val]
  have HA : AtTok w1 pb tb src ts i := h.below hb
  have HB : Hid (Below w.heap.size w w1) := hb
  have hF1 : F.answers w1.tape := by rw [hb.tape]; exact hF
  have hsrc := HA.csrc
  have hpin := HA.pin
  clear hb
  go_wp2_with fail
  have HAd : AtTok w1.drew pb tb src ts i := HA.below (Below.refl _ w1).drew
  have hsp := h.ok.span i h.place
  have hs3 := h.ok.srcShort
  obtain ⟨hs0, hs1, hs2⟩ := hsp
  go_region_with (first
    | (go_at_call 63; refine (peek_c _ pb tb src ts i (by exact HAd)).mono ?_; rintro e w2 ⟨rfl, hb2⟩; rw [tokAt_in h.place]; have hsrc2 := (HAd.below hb2).csrc; have hF2 : F.answers w2.tape := (by rw [hb2.tape]; exact hF1); have HB2 : Hid (Below w.heap.size w w2) := HB.out.trans ((below_undrew hb2).mono HB.out.size); clear hb2)
    | (go_at_call 54; refine (nearToken_c F _ (by exact hF2) src what (tk ts i) hs0 hs1 hs2 hs3).mono ?_; rintro e w3 ⟨g, rfl, hE⟩; have HB3 : Hid (Failed w w3 g (tk ts i).pos) := hE.after HB2.out; clear hE))
  all_goals go_wp2
  all_goals (go_ret; exact ⟨_, rfl, HB3.out⟩)

theorem unexpected_c (F : Interp) (w : World) (hF : F.answers w.tape) (pb tb : Nat) (src : ByteArray) (ts : List Tok) (i : Nat) (h : AtTok w pb tb src ts i) :
    Calls Tryf.prog 51 #[.pointer (some ⟨pb, 0, none⟩)] w fun e w' => ∃ g, e = .returned (.iface 72 (.pointer (some ⟨g, 0, none⟩))) ∧ Failed w w' g (tk ts i).pos := by
  go_enter Tryf.func51, Tryf.ntmps51
  go_wp2_with fail
  refine (errorAtNext_c F _ (by exact hF) pb tb src ts i (by exact h) _).mono ?_
  rintro e w1 ⟨g, rfl, hE⟩
  have HB : Hid (Failed w w1 g (tk ts i).pos) := hE
  clear hE
  go_wp2
  go_ret
  exact ⟨_, rfl, HB.out⟩

end Go.Proofs.Qxb6616070aFmt
