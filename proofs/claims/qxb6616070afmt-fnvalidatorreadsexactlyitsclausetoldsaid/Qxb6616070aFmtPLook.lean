/-
  isLookaheadKeywordAt, isLabelAt: they only read the parser.
-/
import Derived.Test.Qxb6616070aFmtPRead
namespace Go.Proofs.Qxb6616070aFmt
open Go.RowKit

/-- Is this word, before that one, a keyword of another kind? NOT before BETWEEN, IN, LIKE, ILIKE or SIMILAR; NULLS before FIRST or LAST. -/
def isLook (t nx : Tok) : Bool :=
  if t.text.toList == [110, 111, 116] then
    nx.kind == 1 && (nx.text.toList == [98, 101, 116, 119, 101, 101, 110] || nx.text.toList == [105, 110] || nx.text.toList == [108, 105, 107, 101] ||
      nx.text.toList == [105, 108, 105, 107, 101] || nx.text.toList == [115, 105, 109, 105, 108, 97, 114])
  else if t.text.toList == [110, 117, 108, 108, 115] then isWd nx ⟨#[102, 105, 114, 115, 116]⟩ || isWd nx ⟨#[108, 97, 115, 116]⟩
  else false

theorem tokField0 (a b c d : Value) (w : World) : (Instr.field 71 (.agg #[a, b, c, d]) 0).run Tryf.prog w = .ok a w := by kernel_rfl
theorem tokField1 (a b c d : Value) (w : World) : (Instr.field 71 (.agg #[a, b, c, d]) 1).run Tryf.prog w = .ok b w := by kernel_rfl

set_option maxRecDepth 100000 in
set_option maxHeartbeats 800000 in
theorem look_c (w : World) (pb tb : Nat) (src : ByteArray) (ts : List Tok) (i : Nat) (h : AtTok w pb tb src ts i) :
    Calls Tryf.prog 86 #[.pointer (some ⟨pb, 0, none⟩), .int .i64 0] w fun e w' => e = .returned (.bool (isLook (tokAt ts i) (tokAt ts (i + 1)))) ∧ Below w.heap.size w w' := by
  go_enter Tryf.func86, Tryf.ntmps86
  go_wp2_with fail
  refine (peekAt_c _ pb tb src ts i (by exact h) 0 (by omega) (by omega)).mono ?_
  rintro e w1 ⟨rfl, hb⟩
  simp only [Tok.val, Int.toNat_zero, Nat.add_zero]
  have HA : AtTok w1 pb tb src ts i := h.below hb
  have HB : Hid (Below w.heap.size w w1) := hb
  clear hb
  have hf := tokField1
  cases hn : ((tokAt ts i).text.toList == [110, 111, 116])
  · cases hu : ((tokAt ts i).text.toList == [110, 117, 108, 108, 115])
    · go_wp2_with fail
      go_ret
      exact ⟨by simp only [isLook, hn, hu]; rfl, HB.out⟩
    · go_wp2_with fail
      refine (isKeywordAt_c _ pb tb src ts i (by exact HA) 1 (by omega) (by omega) _).mono ?_
      rintro e w2 ⟨rfl, hb2⟩
      rw [show (1 : Int).toNat = 1 from rfl]
      have HB2 : Hid (Below w.heap.size w w2) := HB.out.trans (hb2.mono HB.out.size)
      have HA2 : AtTok w2 pb tb src ts i := HA.below hb2
      clear hb2 HB HA
      cases hx : isWd (tokAt ts (i + 1)) ⟨#[102, 105, 114, 115, 116]⟩
      · go_wp2_with fail
        refine (isKeywordAt_c _ pb tb src ts i (by exact HA2) 1 (by omega) (by omega) _).mono ?_
        rintro e w3 ⟨rfl, hb3⟩
        rw [show (1 : Int).toNat = 1 from rfl]
        have HB3 : Hid (Below w.heap.size w w3) := HB2.out.trans (hb3.mono HB2.out.size)
        clear hb3 HB2 HA2
        go_wp2
        go_ret
        exact ⟨by simp only [isLook, hn, hu, hx]; rfl, HB3.out⟩
      · go_wp2_with fail
        go_ret
        exact ⟨by simp only [isLook, hn, hu, hx]; rfl, HB2.out⟩
  · go_wp2_with fail
    refine (peekAt_c _ pb tb src ts i (by exact HA) 1 (by omega) (by omega)).mono ?_
    rintro e w2 ⟨rfl, hb2⟩
    rw [show (1 : Int).toNat = 1 from rfl]
    simp only [Tok.val]
    have HB2 : Hid (Below w.heap.size w w2) := HB.out.trans (hb2.mono HB.out.size)
    clear hb2 HB HA
    go_wp2
    all_goals (go_ret; refine ⟨?_, HB2.out.alloc HB2.out.size _⟩; simp only [isLook, hn, if_true]; simp [*])

/-- isLabelAt(0): what may follow a dot. -/
def isLb (t nx : Tok) : Bool := t.kind == 1 && !isLook t nx || t.kind == 2

set_option maxHeartbeats 800000 in
theorem isLabelAt_c (w : World) (pb tb : Nat) (src : ByteArray) (ts : List Tok) (i : Nat) (h : AtTok w pb tb src ts i) :
    Calls Tryf.prog 80 #[.pointer (some ⟨pb, 0, none⟩), .int .i64 0] w fun e w' => e = .returned (.bool (isLb (tokAt ts i) (tokAt ts (i + 1)))) ∧ Below w.heap.size w w' := by
  go_enter Tryf.func80, Tryf.ntmps80
  go_wp2_with fail
  refine (peekAt_c _ pb tb src ts i (by exact h) 0 (by omega) (by omega)).mono ?_
  rintro e w1 ⟨rfl, hb⟩
  simp only [Tok.val, Int.toNat_zero, Nat.add_zero]
  have HA : AtTok w1 pb tb src ts i := h.below hb
  have HB : Hid (Below w.heap.size w w1) := hb
  clear hb
  cases hk : ((tokAt ts i).kind == 1)
  · go_wp2_with fail
    go_ret
    refine ⟨?_, HB.out.alloc HB.out.size _⟩
    simp only [isLb, hk]
    rfl
  · go_wp2_with fail
    refine (look_c _ pb tb src ts i (HA.below ((Below.refl _ _).alloc (Nat.le_refl _) _))).mono ?_
    rintro e w2 ⟨rfl, hb2⟩
    obtain ⟨hn, hlt⟩ := below_new hb2
    have c0 := cell_of_block hn 0
    have HB2 : Hid (Below w.heap.size w w2) := HB.out.trans ((below_old hb2).mono HB.out.size)
    clear hb2 hn HB HA
    cases hx : isLook (tokAt ts i) (tokAt ts (i + 1))
    · go_wp2_with fail
      go_ret
      refine ⟨?_, HB2.out⟩
      simp only [isLb, hk, hx]
      rfl
    · go_wp2_with fail
      go_ret
      refine ⟨?_, HB2.out⟩
      simp only [isLb, hk, hx]
      rfl

end Go.Proofs.Qxb6616070aFmt
