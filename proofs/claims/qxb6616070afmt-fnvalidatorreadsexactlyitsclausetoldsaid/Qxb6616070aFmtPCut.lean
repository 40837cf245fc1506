/-
  THE STREAM CUT AT k: zzCutAt.
-/
import Derived.Test.Qxb6616070aFmtPIgn
import Derived.Test.Qxb6616070aFmtPClause
namespace Go.Proofs.Qxb6616070aFmt
open Go.RowKit

/-- Four rows, filled up to j. -/
structure Part (w : World) (B k j : Nat) (K : Nat → Int) (T : Nat → ByteArray) (P E : Nat → Int) : Prop where
  kinds : w.rowIs B 5 (k + 1) (fun i => .int .u8 (if i < j then K i else 0))
  texts : w.rowIs (B + 1) 9 (k + 1) (fun i => .string (if i < j then T i else ⟨#[]⟩))
  poss : w.rowIs (B + 1 + 1) 3 (k + 1) (fun i => .int .i64 (if i < j then P i else 0))
  ends : w.rowIs (B + 1 + 1 + 1) 3 (k + 1) (fun i => .int .i64 (if i < j then E i else 0))

theorem fill_step {α : Type} (f : α → Value) (g : Nat → α) (z : α) (j i : Nat) : (if i = j then f (g j) else f (if i < j then g i else z)) = f (if i < j + 1 then g i else z) := by
  by_cases e : i = j
  · subst e
    rw [if_pos rfl, if_pos (by omega)]
  · rw [if_neg e]
    by_cases h : i < j
    · rw [if_pos h, if_pos (by omega)]
    · rw [if_neg h, if_neg (by omega)]

theorem Part.step {w : World} {B k j : Nat} {K : Nat → Int} {T : Nat → ByteArray} {P E : Nat → Int} (h : Part w B k j K T P E) :
    Part ((((w.setCell ⟨B, j, none⟩ (.int .u8 (K j))).setCell ⟨B + 1, j, none⟩ (.string (T j))).setCell ⟨B + 1 + 1, j, none⟩ (.int .i64 (P j))).setCell ⟨B + 1 + 1 + 1, j, none⟩ (.int .i64 (E j))) B k (j + 1) K T P E where
  kinds := ((((h.kinds.set j (.int .u8 (K j))).setOther (a := ⟨B + 1, j, none⟩) (by simp only; omega) _).setOther (a := ⟨B + 1 + 1, j, none⟩) (by simp only; omega) _).setOther (a := ⟨B + 1 + 1 + 1, j, none⟩) (by simp only; omega) _).congr fun i _ => fill_step (fun z => Value.int .u8 z) K 0 j i
  texts := ((((h.texts.setOther (a := ⟨B, j, none⟩) (by simp only; omega) _).set j (.string (T j))).setOther (a := ⟨B + 1 + 1, j, none⟩) (by simp only; omega) _).setOther (a := ⟨B + 1 + 1 + 1, j, none⟩) (by simp only; omega) _).congr fun i _ => fill_step (fun z => Value.string z) T ⟨#[]⟩ j i
  poss := ((((h.poss.setOther (a := ⟨B, j, none⟩) (by simp only; omega) _).setOther (a := ⟨B + 1, j, none⟩) (by simp only; omega) _).set j (.int .i64 (P j))).setOther (a := ⟨B + 1 + 1 + 1, j, none⟩) (by simp only; omega) _).congr fun i _ => fill_step (fun z => Value.int .i64 z) P 0 j i
  ends := ((((h.ends.setOther (a := ⟨B, j, none⟩) (by simp only; omega) _).setOther (a := ⟨B + 1, j, none⟩) (by simp only; omega) _).setOther (a := ⟨B + 1 + 1, j, none⟩) (by simp only; omega) _).set j (.int .i64 (E j))).congr fun i _ => fill_step (fun z => Value.int .i64 z) E 0 j i

theorem Part.last {w : World} {B k : Nat} {K : Nat → Int} {T : Nat → ByteArray} {P E : Nat → Int} (h : Part w B k k K T P E) :
    Row4 ((((w.setCell ⟨B, k, none⟩ (.int .u8 0)).setCell ⟨B + 1, k, none⟩ (.string ⟨#[]⟩)).setCell ⟨B + 1 + 1, k, none⟩ (.int .i64 (P k))).setCell ⟨B + 1 + 1 + 1, k, none⟩ (.int .i64 (P k))) B (k + 1) (cutK K k) (cutT T k) (cutP P k) (cutE E P k) := by
  have r1 := (((h.kinds.set k (.int .u8 0)).setOther (a := ⟨B + 1, k, none⟩) (by simp only; omega) (.string ⟨#[]⟩)).setOther (a := ⟨B + 1 + 1, k, none⟩) (by simp only; omega) (.int .i64 (P k))).setOther (a := ⟨B + 1 + 1 + 1, k, none⟩) (by simp only; omega) (.int .i64 (P k))
  have r2 := (((h.texts.setOther (a := ⟨B, k, none⟩) (by simp only; omega) (.int .u8 0)).set k (.string ⟨#[]⟩)).setOther (a := ⟨B + 1 + 1, k, none⟩) (by simp only; omega) (.int .i64 (P k))).setOther (a := ⟨B + 1 + 1 + 1, k, none⟩) (by simp only; omega) (.int .i64 (P k))
  have r3 := (((h.poss.setOther (a := ⟨B, k, none⟩) (by simp only; omega) (.int .u8 0)).setOther (a := ⟨B + 1, k, none⟩) (by simp only; omega) (.string ⟨#[]⟩)).set k (.int .i64 (P k))).setOther (a := ⟨B + 1 + 1 + 1, k, none⟩) (by simp only; omega) (.int .i64 (P k))
  have r4 := (((h.ends.setOther (a := ⟨B, k, none⟩) (by simp only; omega) (.int .u8 0)).setOther (a := ⟨B + 1, k, none⟩) (by simp only; omega) (.string ⟨#[]⟩)).setOther (a := ⟨B + 1 + 1, k, none⟩) (by simp only; omega) (.int .i64 (P k))).set k (.int .i64 (P k))
  refine ⟨fun j hj => ?_, fun j hj => ?_, fun j hj => ?_, fun j hj => ?_, r4.lt⟩
  · rw [Nat.zero_add, r1.cell hj]
    unfold cutK
    by_cases e : j = k
    · subst e; simp
    · simp [e]
  · rw [Nat.zero_add, r2.cell hj]
    unfold cutT
    by_cases e : j = k
    · subst e; simp
    · simp [e]
  · rw [Nat.zero_add, r3.cell hj]
    unfold cutP
    by_cases e : j = k
    · subst e; simp
    · simp [e, show j < k by omega]
  · rw [Nat.zero_add, r4.cell hj]
    unfold cutE
    by_cases e : j = k
    · subst e; simp
    · simp [e, show j < k by omega]

theorem made_part (w : World) (k : Nat) (K : Nat → Int) (T : Nat → ByteArray) (P E : Nat → Int) :
    Part ((((w.alloc (.cells (zeros (.int .u8 0) (k + 1)) 5)).alloc (.cells (zeros (.string ⟨#[]⟩) (k + 1)) 9)).alloc (.cells (zeros (.int .i64 0) (k + 1)) 3)).alloc (.cells (zeros (.int .i64 0) (k + 1)) 3)) w.heap.size k 0 K T P E := by
  have r1 := (((World.rowIs_made w (.int .u8 0) (k + 1) 5).alloc (.cells (zeros (.string ⟨#[]⟩) (k + 1)) 9)).alloc (.cells (zeros (.int .i64 0) (k + 1)) 3)).alloc (.cells (zeros (.int .i64 0) (k + 1)) 3)
  have r2 := ((World.rowIs_made (w.alloc (.cells (zeros (.int .u8 0) (k + 1)) 5)) (.string ⟨#[]⟩) (k + 1) 9).alloc (.cells (zeros (.int .i64 0) (k + 1)) 3)).alloc (.cells (zeros (.int .i64 0) (k + 1)) 3)
  have r3 := (World.rowIs_made ((w.alloc (.cells (zeros (.int .u8 0) (k + 1)) 5)).alloc (.cells (zeros (.string ⟨#[]⟩) (k + 1)) 9)) (.int .i64 0) (k + 1) 3).alloc (.cells (zeros (.int .i64 0) (k + 1)) 3)
  have r4 := World.rowIs_made (((w.alloc (.cells (zeros (.int .u8 0) (k + 1)) 5)).alloc (.cells (zeros (.string ⟨#[]⟩) (k + 1)) 9)).alloc (.cells (zeros (.int .i64 0) (k + 1)) 3)) (.int .i64 0) (k + 1) 3
  rw [szA] at r2
  rw [szA, szA] at r3
  rw [szA, szA, szA] at r4
  exact ⟨r1.congr fun i _ => by simp, r2.congr fun i _ => by simp, r3.congr fun i _ => by simp, r4.congr fun i _ => by simp⟩

set_option maxRecDepth 100000 in
set_option maxHeartbeats 3200000 in
theorem cutAt_c (w : World) (A n k kc xc qc ec : Nat) (K : Nat → Int) (T : Nat → ByteArray) (P E : Nat → Int) (hn1 : n ≤ 1048576) (hk : k < n) (R : Row4 w A n K T P E) :
    Calls Tryf.prog 14 #[.slice (some ⟨A, 0, none⟩) n kc, .slice (some ⟨A + 1, 0, none⟩) n xc, .slice (some ⟨A + 1 + 1, 0, none⟩) n qc, .slice (some ⟨A + 1 + 1 + 1, 0, none⟩) n ec, .int .i64 k] w
      fun e w' => e = .returned (.tuple #[.slice (some ⟨w.heap.size, 0, none⟩) (k + 1) (k + 1), .slice (some ⟨w.heap.size + 1, 0, none⟩) (k + 1) (k + 1), .slice (some ⟨w.heap.size + 1 + 1, 0, none⟩) (k + 1) (k + 1), .slice (some ⟨w.heap.size + 1 + 1 + 1, 0, none⟩) (k + 1) (k + 1)]) ∧
        Row4 w' w.heap.size (k + 1) (cutK K k) (cutT T k) (cutP P k) (cutE E P k) ∧ Below w.heap.size w w' := by
  have hm5 := make5 (k + 1) (by omega)
  have hm9 := make9 (k + 1) (by omega)
  have hm3 := make3 (k + 1) (by omega)
  rw [show ((k + 1 : Nat) : Int) = (k : Int) + 1 by omega] at hm5 hm9 hm3
  have htop := R.top
  have HR : Hid (Row4 w A n K T P E) := R
  clear R
  go_enter Tryf.func14, Tryf.ntmps14
  go_wp2_with fail
  clear hm5 hm9 hm3
  go_loopw [18] (fun v wr => ∃ j : Nat, v = .int .i64 j ∧ j ≤ k ∧ Part wr w.heap.size k j K T P E ∧ Below w.heap.size w wr) (fun v _ => k - (intOf v).toNat)
  case atStart =>
    exact ⟨0, rfl, by omega, made_part w k K T P E, ((((Below.refl _ w).alloc (Nat.le_refl _) _).alloc (by rw [szA]; omega) _).alloc (by rw [szA, szA]; omega) _).alloc (by rw [szA, szA, szA]; omega) _⟩
  case round =>
    obtain ⟨j, rfl, hj, hp, hb⟩ := hrel
    by_cases hlt : j < k
    · have RR := HR.out.below hb
      have k0 := RR.kinds j (by omega)
      have k1 := RR.texts j (by omega)
      have k2 := RR.poss j (by omega)
      have k3 := RR.ends j (by omega)
      rw [Nat.zero_add] at k0 k1 k2 k3
      have c0 := hp.kinds.cell (i := j) (by omega)
      have c1 := hp.texts.cell (i := j) (by omega)
      have c2 := hp.poss.cell (i := j) (by omega)
      have c3 := hp.ends.cell (i := j) (by omega)
      have f0 := hp.kinds.frozen
      have f1 := hp.texts.frozen
      have f2 := hp.poss.frozen
      have f3 := hp.ends.frozen
      have HP : Hid (Part wr w.heap.size k j K T P E) := hp
      have HB : Hid (Below w.heap.size w wr) := hb
      clear RR hp hb
      go_wp2_with fail
      go_roundw
      case rel => exact ⟨j + 1, by simp, hlt, HP.out.step, (((HB.out.setCell (Nat.le_refl _) _).setCell (by simp only; omega) _).setCell (by simp only; omega) _).setCell (by simp only; omega) _⟩
      case measure => simp [intOf]; omega
    · obtain rfl : j = k := by omega
      have RR := HR.out.below hb
      have k2 := RR.poss j (by omega)
      rw [Nat.zero_add] at k2
      have c0 := hp.kinds.cell (i := j) (by omega)
      have c1 := hp.texts.cell (i := j) (by omega)
      have c2 := hp.poss.cell (i := j) (by omega)
      have c3 := hp.ends.cell (i := j) (by omega)
      have f0 := hp.kinds.frozen
      have f1 := hp.texts.frozen
      have f2 := hp.poss.frozen
      have f3 := hp.ends.frozen
      have HP : Hid (Part wr w.heap.size j j K T P E) := hp
      have HB : Hid (Below w.heap.size w wr) := hb
      clear RR hp hb
      go_wp2_with fail
      refine bodyPost_ret (v := .tuple #[.slice (some ⟨w.heap.size, 0, none⟩) (j + 1) (j + 1), .slice (some ⟨w.heap.size + 1, 0, none⟩) (j + 1) (j + 1), .slice (some ⟨w.heap.size + 1 + 1, 0, none⟩) (j + 1) (j + 1), .slice (some ⟨w.heap.size + 1 + 1 + 1, 0, none⟩) (j + 1) (j + 1)]) (by simp [results, Tryf.results14, go_sem]) rfl ?_
      exact ⟨rfl, HP.out.last, (((HB.out.setCell (Nat.le_refl _) _).setCell (by simp only; omega) _).setCell (by simp only; omega) _).setCell (by simp only; omega) _⟩

end Go.Proofs.Qxb6616070aFmt
