/-
  keyword, punct: the parser takes the word, or stays.
-/
import Derived.Test.Qxb6616070aFmtPAdv
namespace Go.Proofs.Qxb6616070aFmt
open Go.RowKit

theorem keyword_no (w : World) (pb tb : Nat) (src : ByteArray) (ts : List Tok) (i : Nat) (h : AtTok w pb tb src ts i) (kw : ByteArray) (hw : isWd (tk ts i) kw = false) :
    Calls Tryf.prog 36 #[.pointer (some ⟨pb, 0, none⟩), .string kw] w fun e w' => e = .returned (.bool false) ∧ Below w.heap.size w w' := by
  go_enter Tryf.func36, Tryf.ntmps36
  go_wp2_with fail
  refine (isKeyword_c _ pb tb src ts i (by exact h) kw).mono ?_
  rintro e w1 ⟨rfl, hb⟩
  rw [tokAt_in h.place, hw]
  have HB : Hid (Below w.heap.size w w1) := hb
  clear hb
  go_wp2_with fail
  go_ret
  exact ⟨rfl, HB.out⟩

theorem keyword_yes (w : World) (pb tb : Nat) (src : ByteArray) (ts : List Tok) (i : Nat) (h : AtTok w pb tb src ts i) (kw : ByteArray) (hw : isWd (tk ts i) kw = true) :
    Calls Tryf.prog 36 #[.pointer (some ⟨pb, 0, none⟩), .string kw] w fun e w' => e = .returned (.bool true) ∧ AtTok w' pb tb src ts (i + 1) ∧ Near pb w w' := by
  have hk : (tk ts i).kind ≠ 0 := by
    simp [isWd] at hw
    omega
  go_enter Tryf.func36, Tryf.ntmps36
  go_wp2_with fail
  refine (isKeyword_c _ pb tb src ts i (by exact h) kw).mono ?_
  rintro e w1 ⟨rfl, hb⟩
  rw [tokAt_in h.place, hw]
  have HN : Near pb w w1 := Near.of_below hb h.pin
  have HA : AtTok w1 pb tb src ts i := h.below hb
  clear hb
  go_wp2_with fail
  refine (advance_c _ pb tb src ts i HA hk).mono ?_
  rintro e w2 ⟨rfl, hA2, hN2⟩
  have HA2 : Hid (AtTok w2 pb tb src ts (i + 1) ∧ Near pb w w2) := ⟨hA2, HN.trans hN2⟩
  clear hA2 hN2 HN HA
  go_wp2_with fail
  go_ret
  exact ⟨rfl, HA2.out⟩

theorem punct_no (w : World) (pb tb : Nat) (src : ByteArray) (ts : List Tok) (i : Nat) (h : AtTok w pb tb src ts i) (kw : ByteArray) (hw : isPt (tk ts i) kw = false) :
    Calls Tryf.prog 65 #[.pointer (some ⟨pb, 0, none⟩), .string kw] w fun e w' => e = .returned (.bool false) ∧ Below w.heap.size w w' := by
  go_enter Tryf.func65, Tryf.ntmps65
  go_wp2_with fail
  refine (isPunct_c _ pb tb src ts i (by exact h) kw).mono ?_
  rintro e w1 ⟨rfl, hb⟩
  rw [tokAt_in h.place, hw]
  have HB : Hid (Below w.heap.size w w1) := hb
  clear hb
  go_wp2_with fail
  go_ret
  exact ⟨rfl, HB.out⟩

theorem punct_yes (w : World) (pb tb : Nat) (src : ByteArray) (ts : List Tok) (i : Nat) (h : AtTok w pb tb src ts i) (kw : ByteArray) (hw : isPt (tk ts i) kw = true) :
    Calls Tryf.prog 65 #[.pointer (some ⟨pb, 0, none⟩), .string kw] w fun e w' => e = .returned (.bool true) ∧ AtTok w' pb tb src ts (i + 1) ∧ Near pb w w' := by
  have hk : (tk ts i).kind ≠ 0 := by
    simp [isPt] at hw
    omega
  go_enter Tryf.func65, Tryf.ntmps65
  go_wp2_with fail
  refine (isPunct_c _ pb tb src ts i (by exact h) kw).mono ?_
  rintro e w1 ⟨rfl, hb⟩
  rw [tokAt_in h.place, hw]
  have HN : Near pb w w1 := Near.of_below hb h.pin
  have HA : AtTok w1 pb tb src ts i := h.below hb
  clear hb
  go_wp2_with fail
  refine (advance_c _ pb tb src ts i HA hk).mono ?_
  rintro e w2 ⟨rfl, hA2, hN2⟩
  have HA2 : Hid (AtTok w2 pb tb src ts (i + 1) ∧ Near pb w w2) := ⟨hA2, HN.trans hN2⟩
  clear hA2 hN2 HN HA
  go_wp2_with fail
  go_ret
  exact ⟨rfl, HA2.out⟩

end Go.Proofs.Qxb6616070aFmt
