/-
  name, label: the parser takes a name, or gives the error 42601.
-/
import Derived.Test.Qxb6616070aFmtPUnexp
namespace Go.Proofs.Qxb6616070aFmt
open Go.RowKit Go.Extern.Stop Go.Stop Go.Extern

theorem ResIn.near {pb mb : Nat} {w w' : World} (h : ResIn w mb) (hb : Near pb w w') (h3 : pb ≠ 3) (hm : pb ≠ mb) : ResIn w' mb where
  gin := Nat.lt_of_lt_of_le h.gin hb.size
  min := Nat.lt_of_lt_of_le h.min hb.size
  cell := by rw [hb.cell h.gin (Ne.symm h3)]; exact h.cell
  look := fun w2 h2 s hs => h.look w2 (h2.trans (hb.block mb h.min (Ne.symm hm))) s hs

/-- A store into another of the call's own blocks leaves the error. -/
theorem Failed.set {w w' : World} {g : Nat} {pos : Int} (h : Failed w w' g pos) {p : Addr} (hp : w.heap.size ≤ p.block) (hg : p.block ≠ g) (v : Value) : Failed w (w'.setCell p v) g pos where
  new := h.new
  err := ⟨Nat.lt_of_lt_of_le h.err.bin (by simp [World.setCell]),
    (World.cell?_of_block (w := w') (Below.heap_setCell w' p v g (Ne.symm hg))).trans h.err.code,
    (World.cell?_of_block (w := w') (Below.heap_setCell w' p v g (Ne.symm hg))).trans h.err.pos⟩
  below := h.below.setCell hp v

set_option maxRecDepth 100000 in
set_option maxHeartbeats 800000 in
theorem name_no (F : Interp) (w : World) (hF : F.answers w.tape) (pb tb mb : Nat) (src : ByteArray) (ts : List Tok) (i : Nat) (h : AtTok w pb tb src ts i) (hr : ResIn w mb) (hn : isNm (tokAt ts i) (tokAt ts (i + 1)) = false) :
    Calls Tryf.prog 64 #[.pointer (some ⟨pb, 0, none⟩)] w fun e w' => ∃ g, e = .returned (.tuple #[.agg #[.string ⟨#[]⟩, .int .i64 0], .iface 72 (.pointer (some ⟨g, 0, none⟩))]) ∧ Failed w w' g (tk ts i).pos := by
  go_enter Tryf.func64, Tryf.ntmps64
  go_wp2_with fail
  refine (isNameAt_c _ pb tb mb src ts i (h.below ((Below.refl _ w).alloc (Nat.le_refl _) _)) (hr.below ((Below.refl _ w).alloc (Nat.le_refl _) _))).mono ?_
  rintro e w1 ⟨rfl, hb⟩
  rw [hn]
  obtain ⟨hnew, hnlt⟩ := below_new hb
  have HA : AtTok w1 pb tb src ts i := h.below (below_old hb)
  have HB : Hid (Below w.heap.size w w1) := below_old hb
  have hF1 : F.answers w1.tape := by rw [hb.tape]; exact hF
  clear hb
  have HN : Hid (w1.heap[w.heap.size]? = some (.cells #[.string ⟨#[]⟩, .int .i64 0] 98)) := hnew
  clear hnew
  go_wp2_with fail
  refine (unexpected_c F _ (by exact hF1) pb tb src ts i (by exact HA)).mono ?_
  rintro e w2 ⟨g, rfl, hE⟩
  have hb2 := hE.below
  have hnew2 := (hb2.block _ hnlt).trans HN.out
  have hnlt2 := Nat.lt_of_lt_of_le hnlt hb2.size
  have c0 := cell_of_block hnew2 0
  have c1 := cell_of_block hnew2 1
  have f0 := frozen_of_block hnew2
  have HB2 : Hid (Failed w w2 g (tk ts i).pos) := hE.after HB.out
  have HG : Hid (w.heap.size < g) := Nat.lt_of_lt_of_le hnlt hE.new
  clear hE hb2 hnew2 HB HA hF1
  go_wp2_with fail
  refine bodyPost_ret (v := .tuple #[.agg #[.string ⟨#[]⟩, .int .i64 0], .iface 72 (.pointer (some ⟨g, 0, none⟩))]) (by simp [results, Tryf.results64, go_sem, c0, c1]) rfl ?_
  exact ⟨g, rfl, (HB2.out.set (p := ⟨w.heap.size, 0, none⟩) (Nat.le_refl _) (Nat.ne_of_lt HG.out) _).set (p := ⟨w.heap.size, 1, none⟩) (Nat.le_refl _) (Nat.ne_of_lt HG.out) _⟩

end Go.Proofs.Qxb6616070aFmt
