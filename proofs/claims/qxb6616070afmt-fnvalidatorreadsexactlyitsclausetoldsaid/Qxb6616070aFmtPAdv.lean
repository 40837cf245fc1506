/-
  advance, keyword, punct: the parser moves on by one token.
-/
import Derived.Test.Qxb6616070aFmtPName
namespace Go.Proofs.Qxb6616070aFmt
open Go.RowKit

theorem tokAt_in {ts : List Tok} {i : Nat} (h : i < ts.length) : tokAt ts i = tk ts i := if_pos h

/-- The world behind an advance. -/
theorem adv_world {w w1 : World} {pb tb : Nat} {src : ByteArray} {ts : List Tok} {i : Nat} (h : AtTok w pb tb src ts i) (hb : Below w.heap.size w w1) (hlt : i + 1 < ts.length) (v0 v1 v2 v3 : Value) (o : Obj) :
    AtTok ((((((w1.setCell ⟨pb, 2, none⟩ (.int .i64 ((i : Int) + 1))).setCell ⟨w.heap.size, 0, none⟩ v0).setCell ⟨w.heap.size, 1, none⟩ v1).setCell ⟨w.heap.size, 2, none⟩ v2).setCell ⟨w.heap.size, 3, none⟩ v3).alloc o) pb tb src ts (i + 1) ∧
    Near pb w ((((((w1.setCell ⟨pb, 2, none⟩ (.int .i64 ((i : Int) + 1))).setCell ⟨w.heap.size, 0, none⟩ v0).setCell ⟨w.heap.size, 1, none⟩ v1).setCell ⟨w.heap.size, 2, none⟩ v2).setCell ⟨w.heap.size, 3, none⟩ v3).alloc o) := by
  have hp := h.pin
  have m0 : Moved pb w (w1.setCell ⟨pb, 2, none⟩ (.int .i64 ((i : Int) + 1))) (.int .i64 ((i : Int) + 1)) := Moved.start (Near.of_below hb hp) (h.below hb).cat _
  have m4 := ((((m0.setCell hp (p := ⟨w.heap.size, 0, none⟩) (Nat.le_refl _) v0).setCell hp (p := ⟨w.heap.size, 1, none⟩) (Nat.le_refl _) v1).setCell hp (p := ⟨w.heap.size, 2, none⟩) (Nat.le_refl _) v2).setCell hp (p := ⟨w.heap.size, 3, none⟩) (Nat.le_refl _) v3).alloc hp o
  exact ⟨Moved.at_ (j := i + 1) m4 h hlt, m4.near⟩

set_option maxRecDepth 100000 in
set_option maxHeartbeats 800000 in
/-- advance at a token that is not the last: the place is one on. -/
theorem advance_c (w : World) (pb tb : Nat) (src : ByteArray) (ts : List Tok) (i : Nat) (h : AtTok w pb tb src ts i) (hk : (tk ts i).kind ≠ 0) :
    Calls Tryf.prog 49 #[.pointer (some ⟨pb, 0, none⟩)] w fun e w' => e = .returned (tk ts i).val ∧ AtTok w' pb tb src ts (i + 1) ∧ Near pb w w' := by
  have hlt : i + 1 < ts.length := by
    have h1 := h.ok.eof i h.place
    have h2 := h.place
    omega
  go_enter Tryf.func49, Tryf.ntmps49
  go_wp2_with fail
  refine (peek_c _ pb tb src ts i (h.below ((Below.refl _ w).alloc (Nat.le_refl _) _))).mono ?_
  rintro e w1 ⟨rfl, hb⟩
  rw [tokAt_in h.place]
  simp only [Tok.val]
  obtain ⟨hn, hnlt⟩ := below_new hb
  have c0 := cell_of_block hn 0
  have c1 := cell_of_block hn 1
  have c2 := cell_of_block hn 2
  have c3 := cell_of_block hn 3
  have f0 := frozen_of_block hn
  have HA : AtTok w1 pb tb src ts i := h.below (below_old hb)
  have HB : Hid (Below w.heap.size w w1) := below_old hb
  have p2 := HA.cat
  have f2 := HA.copen
  have hpin := h.pin
  have hpin1 := HA.pin
  have hsh := h.ok.short
  have hpl := h.place
  clear hb hn
  have hkb : ((tk ts i).kind == 0) = false := by simpa using hk
  have hkb' : ((tk ts i).kind != 0) = true := by simpa using hk
  go_wp2
  refine bodyPost_ret (v := (tk ts i).val) (by simp [results, Tryf.results49, go_sem, Tok.val, c0, c1, c2, c3, hnlt]) rfl ?_
  exact ⟨rfl, adv_world h HB.out hlt _ _ _ _ _⟩

end Go.Proofs.Qxb6616070aFmt
