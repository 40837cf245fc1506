/-
  name, label, continued.
-/
import Derived.Test.Qxb6616070aFmtPNames
namespace Go.Proofs.Qxb6616070aFmt
open Go.RowKit Go.Extern.Stop Go.Stop Go.Extern

theorem nm_kind {t nx : Tok} (h : isNm t nx = true) : t.kind ≠ 0 := by
  intro h0
  simp [isNm, h0] at h

theorem lb_kind {t nx : Tok} (h : isLb t nx = true) : t.kind ≠ 0 := by
  intro h0
  simp [isLb, h0] at h

set_option maxRecDepth 100000 in
set_option maxHeartbeats 800000 in
theorem name_yes (w : World) (pb tb mb : Nat) (src : ByteArray) (ts : List Tok) (i : Nat) (h : AtTok w pb tb src ts i) (hr : ResIn w mb) (hn : isNm (tokAt ts i) (tokAt ts (i + 1)) = true) :
    Calls Tryf.prog 64 #[.pointer (some ⟨pb, 0, none⟩)] w fun e w' => e = .returned (.tuple #[.agg #[.string (tk ts i).text, .int .i64 (tk ts i).pos], .nilIface]) ∧ AtTok w' pb tb src ts (i + 1) ∧ Near pb w w' := by
  have hk : (tk ts i).kind ≠ 0 := by
    have := nm_kind hn
    rwa [tokAt_in h.place] at this
  go_enter Tryf.func64, Tryf.ntmps64
  go_wp2_with fail
  refine (isNameAt_c _ pb tb mb src ts i (h.below ((Below.refl _ w).alloc (Nat.le_refl _) _)) (hr.below ((Below.refl _ w).alloc (Nat.le_refl _) _))).mono ?_
  rintro e w1 ⟨rfl, hb⟩
  rw [hn]
  obtain ⟨hnew, hnlt⟩ := below_new hb
  have HA : AtTok w1 pb tb src ts i := h.below (below_old hb)
  have HB : Hid (Below w.heap.size w w1) := below_old hb
  clear hb
  have HN : Hid (w1.heap[w.heap.size]? = some (.cells #[.string ⟨#[]⟩, .int .i64 0] 98)) := hnew
  clear hnew
  go_wp2_with fail
  refine (advance_c _ pb tb src ts i (by exact HA) hk).mono ?_
  rintro e w2 ⟨rfl, hA2, hN2⟩
  simp only [Tok.val]
  have hpw := h.pin
  have hnew2 := (hN2.block _ hnlt (by omega)).trans HN.out
  have hnlt2 := Nat.lt_of_lt_of_le hnlt hN2.size
  have c0 := cell_of_block hnew2 0
  have c1 := cell_of_block hnew2 1
  have f0 := frozen_of_block hnew2
  have HB2 : Hid (Near pb w w2) := (Near.of_below HB.out h.pin).trans hN2
  have HA2 : Hid (AtTok w2 pb tb src ts (i + 1)) := hA2
  clear hA2 hN2 hnew2 HB HA
  go_wp2_with fail
  refine bodyPost_ret (v := .tuple #[.agg #[.string (tk ts i).text, .int .i64 (tk ts i).pos], .nilIface]) (by simp [results, Tryf.results64, go_sem, c0, c1, hnlt2]) rfl ?_
  have m := (((Moved.mk HB2.out HA2.out.cat).setCell h.pin (p := ⟨w.heap.size, 0, none⟩) (Nat.le_refl _) (.string (tk ts i).text)).setCell h.pin (p := ⟨w.heap.size, 1, none⟩) (Nat.le_refl _) (.int .i64 (tk ts i).pos)).alloc h.pin
    (.cells #[.int .u8 (tk ts i).kind, .string (tk ts i).text, .int .i64 (tk ts i).pos, .int .i64 (tk ts i).stop] 71)
  exact ⟨rfl, m.at_ h HA2.out.place, m.near⟩

set_option maxRecDepth 100000 in
set_option maxHeartbeats 800000 in
theorem label_no (F : Interp) (w : World) (hF : F.answers w.tape) (pb tb : Nat) (src : ByteArray) (ts : List Tok) (i : Nat) (h : AtTok w pb tb src ts i) (hn : isLb (tokAt ts i) (tokAt ts (i + 1)) = false) :
    Calls Tryf.prog 66 #[.pointer (some ⟨pb, 0, none⟩)] w fun e w' => ∃ g, e = .returned (.tuple #[noTok.val, .iface 72 (.pointer (some ⟨g, 0, none⟩))]) ∧ Failed w w' g (tk ts i).pos := by
  go_enter Tryf.func66, Tryf.ntmps66
  go_wp2_with fail
  refine (isLabelAt_c _ pb tb src ts i (h.below ((Below.refl _ w).alloc (Nat.le_refl _) _))).mono ?_
  rintro e w1 ⟨rfl, hb⟩
  rw [hn]
  obtain ⟨hnew, hnlt⟩ := below_new hb
  have HA : AtTok w1 pb tb src ts i := h.below (below_old hb)
  have HB : Hid (Below w.heap.size w w1) := below_old hb
  have hF1 : F.answers w1.tape := by rw [hb.tape]; exact hF
  clear hb
  have HN : Hid (w1.heap[w.heap.size]? = some (.cells #[.int .u8 0, .string ⟨#[]⟩, .int .i64 0, .int .i64 0] 71)) := hnew
  clear hnew
  go_wp2_with fail
  refine (unexpected_c F _ (by exact hF1) pb tb src ts i (by exact HA)).mono ?_
  rintro e w2 ⟨g, rfl, hE⟩
  have hb2 := hE.below
  have hnew2 := (hb2.block _ hnlt).trans HN.out
  have hnlt2 := Nat.lt_of_lt_of_le hnlt hb2.size
  have c0 := cell_of_block hnew2 0
  have c1 := cell_of_block hnew2 1
  have c2 := cell_of_block hnew2 2
  have c3 := cell_of_block hnew2 3
  have f0 := frozen_of_block hnew2
  have HB2 : Hid (Failed w w2 g (tk ts i).pos) := hE.after HB.out
  have HG : Hid (w.heap.size < g) := Nat.lt_of_lt_of_le hnlt hE.new
  clear hE hb2 hnew2 HB HA hF1
  go_wp2_with fail
  refine bodyPost_ret (v := .tuple #[noTok.val, .iface 72 (.pointer (some ⟨g, 0, none⟩))]) (by simp [results, Tryf.results66, go_sem, Tok.val, noTok, c0, c1, c2, c3]) rfl ?_
  exact ⟨g, rfl, (((HB2.out.set (p := ⟨w.heap.size, 0, none⟩) (Nat.le_refl _) (Nat.ne_of_lt HG.out) _).set (p := ⟨w.heap.size, 1, none⟩) (Nat.le_refl _) (Nat.ne_of_lt HG.out) _).set (p := ⟨w.heap.size, 2, none⟩) (Nat.le_refl _) (Nat.ne_of_lt HG.out) _).set (p := ⟨w.heap.size, 3, none⟩) (Nat.le_refl _) (Nat.ne_of_lt HG.out) _⟩

set_option maxRecDepth 100000 in
set_option maxHeartbeats 800000 in
theorem label_yes (w : World) (pb tb : Nat) (src : ByteArray) (ts : List Tok) (i : Nat) (h : AtTok w pb tb src ts i) (hn : isLb (tokAt ts i) (tokAt ts (i + 1)) = true) :
    Calls Tryf.prog 66 #[.pointer (some ⟨pb, 0, none⟩)] w fun e w' => e = .returned (.tuple #[(tk ts i).val, .nilIface]) ∧ AtTok w' pb tb src ts (i + 1) ∧ Near pb w w' := by
  have hk : (tk ts i).kind ≠ 0 := by
    have := lb_kind hn
    rwa [tokAt_in h.place] at this
  go_enter Tryf.func66, Tryf.ntmps66
  go_wp2_with fail
  refine (isLabelAt_c _ pb tb src ts i (h.below ((Below.refl _ w).alloc (Nat.le_refl _) _))).mono ?_
  rintro e w1 ⟨rfl, hb⟩
  rw [hn]
  obtain ⟨hnew, hnlt⟩ := below_new hb
  have HA : AtTok w1 pb tb src ts i := h.below (below_old hb)
  have HB : Hid (Below w.heap.size w w1) := below_old hb
  clear hb
  have HN : Hid (w1.heap[w.heap.size]? = some (.cells #[.int .u8 0, .string ⟨#[]⟩, .int .i64 0, .int .i64 0] 71)) := hnew
  clear hnew
  go_wp2_with fail
  refine (advance_c _ pb tb src ts i (by exact HA) hk).mono ?_
  rintro e w2 ⟨rfl, hA2, hN2⟩
  simp only [Tok.val]
  have hpw := h.pin
  have hnew2 := (hN2.block _ hnlt (by omega)).trans HN.out
  have hnlt2 := Nat.lt_of_lt_of_le hnlt hN2.size
  have c0 := cell_of_block hnew2 0
  have c1 := cell_of_block hnew2 1
  have c2 := cell_of_block hnew2 2
  have c3 := cell_of_block hnew2 3
  have f0 := frozen_of_block hnew2
  have HB2 : Hid (Near pb w w2) := (Near.of_below HB.out h.pin).trans hN2
  have HA2 : Hid (AtTok w2 pb tb src ts (i + 1)) := hA2
  clear hA2 hN2 hnew2 HB HA
  go_wp2_with fail
  refine bodyPost_ret (v := .tuple #[(tk ts i).val, .nilIface]) (by simp [results, Tryf.results66, go_sem, Tok.val, c0, c1, c2, c3]) rfl ?_
  have m := ((((Moved.mk HB2.out HA2.out.cat).setCell h.pin (p := ⟨w.heap.size, 0, none⟩) (Nat.le_refl _) (.int .u8 (tk ts i).kind)).setCell h.pin (p := ⟨w.heap.size, 1, none⟩) (Nat.le_refl _) (.string (tk ts i).text)).setCell h.pin (p := ⟨w.heap.size, 2, none⟩) (Nat.le_refl _) (.int .i64 (tk ts i).pos)).setCell h.pin (p := ⟨w.heap.size, 3, none⟩) (Nat.le_refl _) (.int .i64 (tk ts i).stop)
  exact ⟨rfl, m.at_ h HA2.out.place, m.near⟩

end Go.Proofs.Qxb6616070aFmt
