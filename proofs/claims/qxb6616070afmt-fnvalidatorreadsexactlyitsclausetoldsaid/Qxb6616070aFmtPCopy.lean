/-
  make AND copy: a fresh row that holds what a slice held.
-/
import Derived.Test.Qxb6616070aFmtPLaw
import Derived.WalkLawsBesides
import Derived.Laws.IdiomCopy
namespace Go.Proofs.Qxb6616070aFmt
open Go.RowKit

/-- A row by its cells. -/
def rowArr (n : Nat) (f : Nat → Value) : Array Value := ((List.range n).map f).toArray

theorem rowArr_size (n : Nat) (f : Nat → Value) : (rowArr n f).size = n := by simp [rowArr]
theorem rowArr_get {n : Nat} {f : Nat → Value} {j : Nat} (h : j < n) : (rowArr n f)[j]? = some (f j) := by simp [rowArr, h]

theorem rowArr_row (w : World) (t : TypeId) (n : Nat) (f : Nat → Value) : (w.alloc (.cells (rowArr n f) t)).rowIs w.heap.size t n f := by
  have h := World.rowIs_alloc w (rowArr n f) t f (fun i hi => rowArr_get (by rwa [rowArr_size] at hi))
  rwa [rowArr_size] at h

/-- Cells of a new row, set one by one. -/
theorem setCells_alloc (w : World) (t : TypeId) : ∀ (vs : List Value) (o : Nat) (M : Array Value), ∃ M' : Array Value, (w.alloc (.cells M t)).setCells w.heap.size o vs = w.alloc (.cells M' t) ∧ M'.size = M.size ∧
    (∀ j, j < o → M'[j]? = M[j]?) ∧ (∀ j, j < vs.length → o + j < M.size → M'[o + j]? = vs[j]?)
  | [], o, M => ⟨M, rfl, rfl, fun _ _ => rfl, fun j hj => by simp at hj⟩
  | v :: r, o, M => by
    have e : (w.alloc (.cells M t)).setCell ⟨w.heap.size, o, none⟩ v = w.alloc (.cells (M.setIfInBounds o v) t) := World.setCell_alloc_new M t o v
    obtain ⟨M', h1, h2, h3, h4⟩ := setCells_alloc w t r (o + 1) (M.setIfInBounds o v)
    refine ⟨M', by rw [World.setCells, e, h1], by rw [h2]; simp, fun j hj => ?_, fun j hj hs => ?_⟩
    · rw [h3 j (by omega), Array.getElem?_setIfInBounds, if_neg (by omega)]
    · cases j with
      | zero =>
        rw [Nat.add_zero, h3 o (by omega), Array.getElem?_setIfInBounds, if_pos rfl, if_pos (by omega)]
        rfl
      | succ j =>
        have := h4 j (by simpa using hj) (by simp; omega)
        rw [show o + (j + 1) = o + 1 + j by omega, this]
        rfl

theorem run_copy_new {P : Program} (W : World) (T ty e : TypeId) (hu : P.underlying T = some (.slice e)) (hs : (P.info? e).map (·.size) = some 1) (M : Array Value) (n : Nat) (hM : M.size = n) (b o cap : Nat) (f : Nat → Value)
    (hb : b < W.heap.size) (hc : ∀ j, j < n → W.cell? ⟨b, o + j, none⟩ = some (f j)) (h1 : ∀ j, j < n → (f j).oneCell' = true) :
    (Builtin.copy_ #[T, T] ty #[.slice (some ⟨W.heap.size, 0, none⟩) n n, .slice (some ⟨b, o, none⟩) n cap]).run P (W.alloc (.cells M e)) = .ok (goInt n) (W.alloc (.cells (rowArr n f) e)) := by
  have hn : (W.alloc (.cells M e)).heap[W.heap.size]? = some (.cells M e) := by
    show (W.heap.push _)[W.heap.size]? = _
    simp
  have hl : ((List.range n).map f).length = n := by simp
  have hr := run_copy_cells (P := P) (W.alloc (.cells M e)) T T ty e W.heap.size 0 n n ⟨b, o, none⟩ n cap ((List.range n).map f) hu hs (by simp)
    (fun j v hj => by
      have hjn : j < n := by
        have := (List.getElem?_eq_some_iff.1 hj).1
        simpa using this
      have hv : f j = v := by simpa [hjn] using hj
      rw [← hv, show (⟨b, o, none⟩ : Addr).add j = ⟨b, o + j, none⟩ by unfold Addr.add; split <;> simp_all, World.cell?_of_block (Below.heap_alloc W _ b hb)]
      exact hc j hjn)
    (fun j hj => by
      rw [hl] at hj
      rw [cell_of_block hn]
      simp [hM, hj])
    (fun j _ => frozen_of_block hn _)
    (fun v hv => by
      obtain ⟨j, hj, rfl⟩ := List.mem_map.1 hv
      exact h1 j (by simpa using hj))
  rw [hr, hl]
  obtain ⟨M', e1, e2, _, e4⟩ := setCells_alloc W e ((List.range n).map f) 0 M
  rw [e1]
  have : M' = rowArr n f := by
    apply Array.ext_getElem?
    intro j
    by_cases hj : j < n
    · have := e4 j (by simpa using hj) (by omega)
      rw [Nat.zero_add] at this
      rw [this, rowArr_get hj]
      simp [hj]
    · rw [Array.getElem?_eq_none (by omega), Array.getElem?_eq_none (by rw [rowArr_size]; omega)]
  rw [this]

theorem info5 : (Tryf.prog.info? 5).map (fun i => (i.zero, i.size, i.bytes)) = some (some (.int .u8 0), 1, 1) := by kernel_rfl
theorem info9 : (Tryf.prog.info? 9).map (fun i => (i.zero, i.size, i.bytes)) = some (some (.string ⟨#[]⟩), 1, 16) := by kernel_rfl
theorem info3 : (Tryf.prog.info? 3).map (fun i => (i.zero, i.size, i.bytes)) = some (some (.int .i64 0), 1, 8) := by kernel_rfl
theorem size5 : (Tryf.prog.info? 5).map (·.size) = some 1 := by kernel_rfl
theorem size9 : (Tryf.prog.info? 9).map (·.size) = some 1 := by kernel_rfl
theorem size3 : (Tryf.prog.info? 3).map (·.size) = some 1 := by kernel_rfl

/-- What make lays. -/
def zeros (z : Value) (n : Nat) : Array Value := madeCells #[z] n
theorem zeros_size (z : Value) (n : Nat) : (zeros z n).size = n := size_madeCells _ _

theorem make5 (n : Nat) (hn : n ≤ 1048577) (w : World) : (Instr.makeSlice 22 (.int .i64 (n : Int)) (.int .i64 (n : Int))).run Tryf.prog w = .ok (.slice (some ⟨w.heap.size, 0, none⟩) n n) (w.alloc (.cells (zeros (.int .u8 0) n) 5)) :=
  run_make_row' 22 5 _ 1 Tryf.underlying22 info5 rfl .i64 .i64 n (by omega) (by omega) w
theorem make9 (n : Nat) (hn : n ≤ 1048577) (w : World) : (Instr.makeSlice 23 (.int .i64 (n : Int)) (.int .i64 (n : Int))).run Tryf.prog w = .ok (.slice (some ⟨w.heap.size, 0, none⟩) n n) (w.alloc (.cells (zeros (.string ⟨#[]⟩) n) 9)) :=
  run_make_row' 23 9 _ 16 Tryf.underlying23 info9 rfl .i64 .i64 n (by omega) (by omega) w
theorem make3 (n : Nat) (hn : n ≤ 1048577) (w : World) : (Instr.makeSlice 24 (.int .i64 (n : Int)) (.int .i64 (n : Int))).run Tryf.prog w = .ok (.slice (some ⟨w.heap.size, 0, none⟩) n n) (w.alloc (.cells (zeros (.int .i64 0) n) 3)) :=
  run_make_row' 24 3 _ 8 Tryf.underlying24 info3 rfl .i64 .i64 n (by omega) (by omega) w

end Go.Proofs.Qxb6616070aFmt
