/-
  isNameAt: it only reads the parser and the table reserved.
-/
import Derived.Test.Qxb6616070aFmtPLook
import Derived.Test.Qxb6616070aFmtPRes
namespace Go.Proofs.Qxb6616070aFmt
open Go.RowKit

/-- isNameAt(0): a quoted name, or a word neither reserved nor such a keyword. -/
def isNm (t nx : Tok) : Bool := t.kind == 2 || t.kind == 1 && !isRes t.text.toList && !isLook t nx

set_option maxRecDepth 100000 in
set_option maxHeartbeats 800000 in
theorem isNameAt_c (w : World) (pb tb mb : Nat) (src : ByteArray) (ts : List Tok) (i : Nat) (h : AtTok w pb tb src ts i) (hr : ResIn w mb) :
    Calls Tryf.prog 78 #[.pointer (some ⟨pb, 0, none⟩), .int .i64 0] w fun e w' => e = .returned (.bool (isNm (tokAt ts i) (tokAt ts (i + 1)))) ∧ Below w.heap.size w w' := by
  go_enter Tryf.func78, Tryf.ntmps78
  go_wp2_with fail
  refine (peekAt_c _ pb tb src ts i (by exact h) 0 (by omega) (by omega)).mono ?_
  rintro e w1 ⟨rfl, hb⟩
  simp only [Tok.val, Int.toNat_zero, Nat.add_zero]
  have HA : AtTok w1 pb tb src ts i := h.below hb
  have HR : ResIn w1 mb := hr.below hb
  have HB : Hid (Below w.heap.size w w1) := hb
  have hl := fun (o : Obj) => HR.look (w1.alloc o) (Below.heap_alloc w1 o mb HR.min) (tokAt ts i).text (HA.smallAt i)
  have hg := HR.cell
  have hgi := HR.gin
  clear hb
  cases h2 : ((tokAt ts i).kind == 2)
  · cases h1 : ((tokAt ts i).kind == 1)
    · go_wp2_with fail
      go_ret
      refine ⟨?_, HB.out.alloc HB.out.size _⟩
      simp only [isNm, h2, h1]
      rfl
    · cases h3 : isRes (tokAt ts i).text.toList
      · go_wp2_with fail
        refine (look_c _ pb tb src ts i (HA.below ((Below.refl _ _).alloc (Nat.le_refl _) _))).mono ?_
        rintro e w2 ⟨rfl, hb2⟩
        have HB2 : Hid (Below w.heap.size w w2) := HB.out.trans ((below_old hb2).mono HB.out.size)
        clear hb2 HB HA hl
        go_wp2_with fail
        go_ret
        refine ⟨?_, HB2.out⟩
        simp only [isNm, h2, h1, h3]
        rfl
      · go_wp2_with fail
        go_ret
        refine ⟨?_, HB.out.alloc HB.out.size _⟩
        simp only [isNm, h2, h1, h3]
        rfl
  · go_wp2_with fail
    go_ret
    refine ⟨?_, HB.out.alloc HB.out.size _⟩
    simp only [isNm, h2]
    rfl

end Go.Proofs.Qxb6616070aFmt
