/-
  make AND copy: a fresh row that holds what a slice held.
-/
import Derived.Test.Qxb6616649aWalk
import Derived.Deep.OwnRows
import Derived.WalkLawsBesides
import Derived.Laws.IdiomCopy
namespace Go.Proofs.Qxb6616649a
open Go.RowKit

/-- A row by its cells. -/
def rowArr (n : Nat) (f : Nat → Value) : Array Value := ((List.range n).map f).toArray

theorem rowArr_size (n : Nat) (f : Nat → Value) : (rowArr n f).size = n := by simp [rowArr]
theorem rowArr_get {n : Nat} {f : Nat → Value} {j : Nat} (h : j < n) : (rowArr n f)[j]? = some (f j) := by simp [rowArr, h]

theorem rowArr_row (w : World) (t : TypeId) (n : Nat) (f : Nat → Value) : (w.alloc (.cells (rowArr n f) t)).rowIs w.heap.size t n f := by
  have h := World.rowIs_alloc w (rowArr n f) t f (fun i hi => rowArr_get (by rwa [rowArr_size] at hi))
  rwa [rowArr_size] at h

/-- Cells of a new row, set one by one. -/
theorem setCells_alloc (w : World) (t : TypeId) : ∀ (vs : List Value) (o : Nat) (M : Array Value), ∃ M' : Array Value, (w.alloc (.cells M t)).setCells w.heap.size o vs = w.alloc (.cells M' t) ∧ M'.size = M.size ∧
    (∀ j, j < o → M'[j]? = M[j]?) ∧ (∀ j, j < vs.length → o + j < M.size → M'[o + j]? = vs[j]?)
  | [], o, M => ⟨M, rfl, rfl, fun _ _ => rfl, fun j hj => by simp at hj⟩
  | v :: r, o, M => by
    have e : (w.alloc (.cells M t)).setCell ⟨w.heap.size, o, none⟩ v = w.alloc (.cells (M.setIfInBounds o v) t) := World.setCell_alloc_new M t o v
    obtain ⟨M', h1, h2, h3, h4⟩ := setCells_alloc w t r (o + 1) (M.setIfInBounds o v)
    refine ⟨M', by rw [World.setCells, e, h1], by rw [h2]; simp, fun j hj => ?_, fun j hj hs => ?_⟩
    · rw [h3 j (by omega), Array.getElem?_setIfInBounds, if_neg (by omega)]
    · cases j with
      | zero =>
        rw [Nat.add_zero, h3 o (by omega), Array.getElem?_setIfInBounds, if_pos rfl, if_pos (by omega)]
        rfl
      | succ j =>
        have := h4 j (by simpa using hj) (by simp; omega)
        rw [show o + (j + 1) = o + 1 + j by omega, this]
        rfl

theorem cell_of_block {w : World} {b : Nat} {cs : Array Value} {t : TypeId} (h : w.heap[b]? = some (.cells cs t)) (o : Nat) : w.cell? ⟨b, o, none⟩ = cs[o]? := by
  simp [World.cell?, h]

theorem frozen_of_block {w : World} {b : Nat} {cs : Array Value} {t : TypeId} (h : w.heap[b]? = some (.cells cs t)) (o : Nat) : w.frozen? ⟨b, o, none⟩ = false := by
  simp [World.frozen?, h]

theorem block_of_cell {w : World} {a : Addr} {v : Value} (h : w.cell? a = some v) : a.block < w.heap.size := by
  by_cases hlt : a.block < w.heap.size
  · exact hlt
  · exfalso
    have : w.heap[a.block]? = none := Array.getElem?_eq_none (by omega)
    simp [World.cell?, this] at h

theorem add_block (a : Addr) (j : Nat) : (a.add j).block = a.block := by
  unfold Addr.add
  split <;> rfl

theorem run_copy_new {P : Program} (W : World) (T ty e : TypeId) (hu : P.underlying T = some (.slice e)) (hs : (P.info? e).map (·.size) = some 1) (M : Array Value) (n : Nat) (hM : M.size = n) (x : Addr) (cap : Nat) (f : Nat → Value)
    (hc : ∀ j, j < n → W.cell? (x.add j) = some (f j)) (h1 : ∀ j, j < n → (f j).oneCell' = true) :
    (Builtin.copy_ #[T, T] ty #[.slice (some ⟨W.heap.size, 0, none⟩) n n, .slice (some x) n cap]).run P (W.alloc (.cells M e)) = .ok (goInt n) (W.alloc (.cells (rowArr n f) e)) := by
  have hn : (W.alloc (.cells M e)).heap[W.heap.size]? = some (.cells M e) := by
    show (W.heap.push _)[W.heap.size]? = _
    simp
  have hl : ((List.range n).map f).length = n := by simp
  have hr := run_copy_cells (P := P) (W.alloc (.cells M e)) T T ty e W.heap.size 0 n n x n cap ((List.range n).map f) hu hs (by simp)
    (fun j v hj => by
      have hjn : j < n := by
        have := (List.getElem?_eq_some_iff.1 hj).1
        simpa using this
      have hv : f j = v := by simpa [hjn] using hj
      have hx := hc j hjn
      rw [← hv, World.cell?_of_block (Below.heap_alloc W _ (x.add j).block (block_of_cell hx))]
      exact hx)
    (fun j hj => by
      rw [hl] at hj
      rw [cell_of_block hn]
      simp [hM, hj])
    (fun j _ => frozen_of_block hn _)
    (fun v hv => by
      obtain ⟨j, hj, rfl⟩ := List.mem_map.1 hv
      exact h1 j (by simpa using hj))
  rw [hr, hl]
  obtain ⟨M', e1, e2, _, e4⟩ := setCells_alloc W e ((List.range n).map f) 0 M
  rw [e1]
  have : M' = rowArr n f := by
    apply Array.ext_getElem?
    intro j
    by_cases hj : j < n
    · have := e4 j (by simpa using hj) (by omega)
      rw [Nat.zero_add] at this
      rw [this, rowArr_get hj]
      simp [hj]
    · rw [Array.getElem?_eq_none (by omega), Array.getElem?_eq_none (by rw [rowArr_size]; omega)]
  rw [this]

theorem info5 : (Try.prog.info? 5).map (fun i => (i.zero, i.size, i.bytes)) = some (some (.int .u8 0), 1, 1) := by kernel_rfl
theorem size5 : (Try.prog.info? 5).map (·.size) = some 1 := by kernel_rfl

/-- What make lays. -/
def zeros (n : Nat) : Array Value := madeCells #[.int .u8 0] n
theorem zeros_size (n : Nat) : (zeros n).size = n := size_madeCells _ _

theorem make5 (n : Nat) (hn : n ≤ 1048577) (w : World) : (Instr.makeSlice 22 (.int .i64 (n : Int)) (.int .i64 (n : Int))).run Try.prog w = .ok (.slice (some ⟨w.heap.size, 0, none⟩) n n) (w.alloc (.cells (zeros n) 5)) :=
  run_make_row' 22 5 _ 1 Try.underlying22 info5 rfl .i64 .i64 n (by omega) (by omega) w

/-- The copy's block. -/
def bObj (xs : List Int) : Obj := .cells (rowArr xs.length fun j => .int .u8 (xs.getD j 0)) 5

theorem copy5 (xs : List Int) (x : Addr) (cap : Nat) (W : World) (hc : ∀ j, j < xs.length → W.cell? (x.add j) = some (.int .u8 (xs.getD j 0))) :
    (Builtin.copy_ #[22, 22] 3 #[.slice (some ⟨W.heap.size, 0, none⟩) xs.length xs.length, .slice (some x) xs.length cap]).run Try.prog (W.alloc (.cells (zeros xs.length) 5)) = .ok (goInt xs.length) (W.alloc (bObj xs)) :=
  run_copy_new W 22 3 5 Try.underlying22 size5 (zeros xs.length) xs.length (zeros_size _) x cap _ hc (fun _ _ => rfl)

theorem bs_of_row {w : World} {b : Nat} {xs : List Int} (hs : Small xs) (h : w.rowIs b 5 xs.length fun j => .int .u8 (xs.getD j 0)) : Bs w (some ⟨b, 0, none⟩) xs :=
  ⟨hs, fun _ => ⟨b, rfl, h.lt, fun _ hj => h.cell hj⟩⟩

theorem bs_new (w : World) {xs : List Int} (hs : Small xs) : Bs (w.alloc (bObj xs)) (some ⟨w.heap.size, 0, none⟩) xs :=
  bs_of_row hs (rowArr_row w 5 xs.length _)

/-- The row of a joined list, filled up to k. -/
def partRow (zs : List Int) (k : Nat) : Nat → Value := fun j => .int .u8 (if j < k then zs.getD j 0 else 0)

theorem part_set {w : World} {b n k : Nat} {zs : List Int} (h : w.rowIs b 5 n (partRow zs k)) : (w.setCell ⟨b, k, none⟩ (.int .u8 (zs.getD k 0))).rowIs b 5 n (partRow zs (k + 1)) :=
  (h.set k _).congr fun j _ => by
    unfold partRow
    by_cases e : j = k
    · subst e
      rw [if_pos rfl, if_pos (by omega)]
    · rw [if_neg e]
      congr 1
      by_cases e2 : j < k
      · rw [if_pos e2, if_pos (by omega)]
      · rw [if_neg e2, if_neg (by omega)]

theorem getD_left (xs ys : List Int) (j : Nat) (h : j < xs.length) : (xs ++ ys).getD j 0 = xs.getD j 0 := by
  rw [List.getD_eq_getElem?_getD, List.getD_eq_getElem?_getD, List.getElem?_append_left h]
theorem getD_right (xs ys : List Int) (j : Nat) : (xs ++ ys).getD (xs.length + j) 0 = ys.getD j 0 := by
  rw [List.getD_eq_getElem?_getD, List.getD_eq_getElem?_getD, List.getElem?_append_right (by omega)]
  congr 2
  omega

set_option maxRecDepth 100000 in
set_option maxHeartbeats 1600000 in
theorem concat_c (w : World) (a b : Option Addr) (xs ys : List Int) (c d : Nat) (ha : Bs w a xs) (hb : Bs w b ys) (l1 : xs.length ≤ 262144) (l2 : ys.length ≤ 262144) :
    Calls Try.prog 9 #[.slice a xs.length c, .slice b ys.length d] w
      fun e w' => ∃ g, e = .returned (.slice (some ⟨g, 0, none⟩) (xs ++ ys).length (xs ++ ys).length) ∧ Bs w' (some ⟨g, 0, none⟩) (xs ++ ys) ∧ Below w.heap.size w w' := by
  obtain ⟨zs, hz⟩ : ∃ zs, xs ++ ys = zs := ⟨_, rfl⟩
  have hzs : Small zs := by rw [← hz]; exact ha.small.append hb.small
  have gl := getD_left xs ys
  have gr := getD_right xs ys
  have hlen : zs.length = xs.length + ys.length := by rw [← hz, List.length_append]
  have hA := ha.cells
  have hB := hb.cells
  rw [hz] at gl gr ⊢
  rw [hlen]
  have HZ : Hid (zs.length = xs.length + ys.length) := hlen
  have HS : Hid (Small zs) := hzs
  clear hz hlen ha hb hzs
  generalize xs.length = n at *
  generalize ys.length = m at *
  have hmk := make5 (n + m) (by omega)
  rw [Int.natCast_add] at hmk
  go_enter Try.func9, Try.ntmps9
  go_wp2_with fail
  clear hmk
  go_loopw [6] (fun v wr => ∃ k : Nat, v = .int .i64 k ∧ k ≤ n ∧ wr.rowIs w.heap.size 5 (n + m) (partRow zs k) ∧ Below w.heap.size w wr) (fun v _ => n - (intOf v).toNat)
  case atStart => exact ⟨0, rfl, by omega, (World.rowIs_made w (.int .u8 0) (n + m) 5).congr (fun i _ => by simp [partRow]), (Below.refl _ _).alloc (Nat.le_refl _) _⟩
  case round =>
    obtain ⟨k, rfl, hk, hrow, hbw⟩ := hrel
    by_cases hkn : k < n
    · obtain ⟨b1, rfl, hb1, hc1⟩ := hA (by omega)
      have k0 := (hbw.cell (p := ⟨b1, k, none⟩) hb1).trans (hc1 k hkn)
      rw [← gl k hkn] at k0
      have c0 := hrow.cell (i := k) (by omega)
      have f := hrow.frozen
      have HR : Hid (wr.rowIs w.heap.size 5 (n + m) (partRow zs k)) := hrow
      have HB : Hid (Below w.heap.size w wr) := hbw
      clear hrow hbw hA hB hc1 gl gr
      go_wp2_with fail
      go_roundw
      case rel => exact ⟨k + 1, by simp, hkn, part_set HR.out, HB.out.setCell (Nat.le_refl _) _⟩
      case measure => simp [intOf]; omega
    · obtain rfl : k = n := by omega
      have HR : Hid (wr.rowIs w.heap.size 5 (k + m) (partRow zs k)) := hrow
      have HB : Hid (Below w.heap.size w wr) := hbw
      have HG : Hid (∀ j, zs.getD (k + j) 0 = ys.getD j 0) := gr
      have HBB : Hid (0 < m → ∃ b_1, b = some ⟨b_1, 0, none⟩ ∧ b_1 < w.heap.size ∧ ∀ j, j < m → w.cell? ⟨b_1, j, none⟩ = some (.int .u8 (ys.getD j 0))) := hB
      clear hrow hbw hA hB gl gr hkn hk
      go_wp2_with fail
      go_loopw [7] (fun v wr => ∃ q : Nat, v = .int .i64 q ∧ q ≤ m ∧ wr.rowIs w.heap.size 5 (k + m) (partRow zs (k + q)) ∧ Below w.heap.size w wr) (fun v _ => m - (intOf v).toNat)
      case atStart => exact ⟨0, rfl, by omega, HR.out, HB.out⟩
      case round =>
        obtain ⟨q, rfl, hq, hrow, hbw⟩ := hrel
        by_cases hqm : q < m
        · obtain ⟨b2, rfl, hb2, hc2⟩ := HBB.out (by omega)
          have k0 := (hbw.cell (p := ⟨b2, q, none⟩) hb2).trans (hc2 q hqm)
          rw [← HG.out q] at k0
          have c0 := hrow.cell (i := k + q) (by omega)
          have f := hrow.frozen
          have HR2 : Hid (‹World›.rowIs w.heap.size 5 (k + m) (partRow zs (k + q))) := hrow
          have HB2 : Hid (Below w.heap.size w _) := hbw
          clear hrow hbw hc2 HBB HG
          go_wp2_with fail
          go_roundw
          case rel => exact ⟨q + 1, by simp, hqm, part_set HR2.out, HB2.out.setCell (Nat.le_refl _) _⟩
          case measure => simp [intOf]; omega
        · obtain rfl : q = m := by omega
          have HR2 : Hid (Bs _ (some ⟨w.heap.size, 0, none⟩) zs) := bs_of_row HS.out (by
            rw [HZ.out]
            exact hrow.congr fun j hj => by
              unfold partRow
              rw [if_pos hj])
          have HB2 : Hid (Below w.heap.size w _) := hbw
          clear hrow hbw HBB HG HR HB HZ
          go_wp2_with fail
          go_ret
          exact ⟨_, rfl, HR2.out, HB2.out⟩

end Go.Proofs.Qxb6616649a
