/-
  THE CALLS THAT ONLY READ THE PARSER: peek, isKeywordAt, isKeyword, isPunctAt, isPunct.
-/
import Derived.Test.Qxb6616070aFmtPPeek
namespace Go.Proofs.Qxb6616070aFmt
open Go.RowKit

/-- A block laid ahead of a call, behind it. -/
theorem below_new {w w1 : World} {o : Obj} (hb : Below (w.alloc o).heap.size (w.alloc o) w1) : w1.heap[w.heap.size]? = some o ∧ w.heap.size < w1.heap.size := by
  have h1 : (w.alloc o).heap.size = w.heap.size + 1 := by simp
  have h2 : (w.alloc o).heap[w.heap.size]? = some o := by
    show (w.heap.push o)[w.heap.size]? = _
    simp
  have hs := hb.size
  rw [h1] at hb
  exact ⟨(hb.block _ (Nat.lt_succ_self _)).trans h2, by omega⟩

theorem cell_of_block {w : World} {b : Nat} {cs : Array Value} {t : TypeId} (h : w.heap[b]? = some (.cells cs t)) (o : Nat) : w.cell? ⟨b, o, none⟩ = cs[o]? := by
  simp [World.cell?, h]

theorem frozen_of_block {w : World} {b : Nat} {cs : Array Value} {t : TypeId} (h : w.heap[b]? = some (.cells cs t)) (o : Nat) : w.frozen? ⟨b, o, none⟩ = false := by
  simp [World.frozen?, h]

/-- What holds below a new block holds below what was there before it. -/
theorem below_old {w w1 : World} {o : Obj} (hb : Below (w.alloc o).heap.size (w.alloc o) w1) : Below w.heap.size w w1 :=
  ((Below.refl _ w).alloc (Nat.le_refl _) o).trans (hb.mono (by simp))

/-- Four cells of one of the call's own blocks, written. -/
theorem below_set4 {B b : Nat} {w w1 : World} (h : Below B w w1) (hb : B ≤ b) (v0 v1 v2 v3 : Value) :
    Below B w ((((w1.setCell ⟨b, 0, none⟩ v0).setCell ⟨b, 1, none⟩ v1).setCell ⟨b, 2, none⟩ v2).setCell ⟨b, 3, none⟩ v3) :=
  (((h.setCell hb v0).setCell hb v1).setCell hb v2).setCell hb v3

theorem peek_c (w : World) (pb tb : Nat) (src : ByteArray) (ts : List Tok) (i : Nat) (h : AtTok w pb tb src ts i) :
    Calls Tryf.prog 63 #[.pointer (some ⟨pb, 0, none⟩)] w fun e w' => e = .returned (tokAt ts i).val ∧ Below w.heap.size w w' := by
  go_enter Tryf.func63, Tryf.ntmps63
  go_wp2_with fail
  refine (peekAt_c _ pb tb src ts i (h.below ((Below.refl _ w).alloc (Nat.le_refl _) _)) 0 (by omega) (by omega)).mono ?_
  rintro e w1 ⟨rfl, hb⟩
  simp only [Tok.val, Int.toNat_zero, Nat.add_zero]
  obtain ⟨hn, hlt⟩ := below_new hb
  have c0 := cell_of_block hn 0
  have c1 := cell_of_block hn 1
  have c2 := cell_of_block hn 2
  have c3 := cell_of_block hn 3
  have f0 := frozen_of_block hn
  have HB : Hid (Below (w.alloc (.cells #[.int .u8 0, .string ⟨#[]⟩, .int .i64 0, .int .i64 0] 71)).heap.size (w.alloc (.cells #[.int .u8 0, .string ⟨#[]⟩, .int .i64 0, .int .i64 0] 71)) w1) := hb
  clear hb hn
  go_wp2
  refine bodyPost_ret (v := (tokAt ts i).val) (by simp [results, Tryf.results63, go_sem, Tok.val, c0, c1, c2, c3]) rfl ?_
  exact ⟨rfl, below_set4 (below_old HB.out) (Nat.le_refl _) _ _ _ _⟩

/-- Is the token this keyword? -/
def isWd (t : Tok) (kw : ByteArray) : Bool := t.kind == 1 && (t.text.toList == kw.toList)
/-- Is it this punctuation? -/
def isPt (t : Tok) (c : ByteArray) : Bool := t.kind == 7 && (t.text.toList == c.toList)

theorem isKeywordAt_c (w : World) (pb tb : Nat) (src : ByteArray) (ts : List Tok) (i : Nat) (h : AtTok w pb tb src ts i) (k : Int) (h0 : 0 ≤ k) (h1 : k ≤ 1) (kw : ByteArray) :
    Calls Tryf.prog 62 #[.pointer (some ⟨pb, 0, none⟩), .int .i64 k, .string kw] w fun e w' => e = .returned (.bool (isWd (tokAt ts (i + k.toNat)) kw)) ∧ Below w.heap.size w w' := by
  go_enter Tryf.func62, Tryf.ntmps62
  go_wp2_with fail
  refine (peekAt_c _ pb tb src ts i (by exact h) k h0 h1).mono ?_
  rintro e w1 ⟨rfl, hb⟩
  simp only [Tok.val]
  have HB : Hid (Below w.heap.size w w1) := hb
  clear hb
  go_wp2
  · go_ret
    exact ⟨by simp [isWd, *], HB.out.alloc HB.out.size _⟩
  · go_ret
    exact ⟨by simp [isWd, *], HB.out.alloc HB.out.size _⟩

theorem isPunctAt_c (w : World) (pb tb : Nat) (src : ByteArray) (ts : List Tok) (i : Nat) (h : AtTok w pb tb src ts i) (k : Int) (h0 : 0 ≤ k) (h1 : k ≤ 1) (kw : ByteArray) :
    Calls Tryf.prog 87 #[.pointer (some ⟨pb, 0, none⟩), .int .i64 k, .string kw] w fun e w' => e = .returned (.bool (isPt (tokAt ts (i + k.toNat)) kw)) ∧ Below w.heap.size w w' := by
  go_enter Tryf.func87, Tryf.ntmps87
  go_wp2_with fail
  refine (peekAt_c _ pb tb src ts i (by exact h) k h0 h1).mono ?_
  rintro e w1 ⟨rfl, hb⟩
  simp only [Tok.val]
  have HB : Hid (Below w.heap.size w w1) := hb
  clear hb
  go_wp2
  · go_ret
    exact ⟨by simp [isPt, *], HB.out.alloc HB.out.size _⟩
  · go_ret
    exact ⟨by simp [isPt, *], HB.out.alloc HB.out.size _⟩

theorem isKeyword_c (w : World) (pb tb : Nat) (src : ByteArray) (ts : List Tok) (i : Nat) (h : AtTok w pb tb src ts i) (kw : ByteArray) :
    Calls Tryf.prog 48 #[.pointer (some ⟨pb, 0, none⟩), .string kw] w fun e w' => e = .returned (.bool (isWd (tokAt ts i) kw)) ∧ Below w.heap.size w w' := by
  go_enter Tryf.func48, Tryf.ntmps48
  go_wp2_with fail
  refine (isKeywordAt_c _ pb tb src ts i (by exact h) 0 (by omega) (by omega) kw).mono ?_
  rintro e w1 ⟨rfl, hb⟩
  simp only [Int.toNat_zero, Nat.add_zero]
  go_wp2
  go_ret
  exact ⟨rfl, hb⟩

theorem isPunct_c (w : World) (pb tb : Nat) (src : ByteArray) (ts : List Tok) (i : Nat) (h : AtTok w pb tb src ts i) (kw : ByteArray) :
    Calls Tryf.prog 79 #[.pointer (some ⟨pb, 0, none⟩), .string kw] w fun e w' => e = .returned (.bool (isPt (tokAt ts i) kw)) ∧ Below w.heap.size w w' := by
  go_enter Tryf.func79, Tryf.ntmps79
  go_wp2_with fail
  refine (isPunctAt_c _ pb tb src ts i (by exact h) 0 (by omega) (by omega) kw).mono ?_
  rintro e w1 ⟨rfl, hb⟩
  simp only [Int.toNat_zero, Nat.add_zero]
  go_wp2
  go_ret
  exact ⟨rfl, hb⟩

end Go.Proofs.Qxb6616070aFmt
