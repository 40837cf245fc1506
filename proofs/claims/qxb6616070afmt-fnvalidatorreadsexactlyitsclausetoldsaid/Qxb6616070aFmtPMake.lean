/-
  zzTokens: the row of tokens that it makes; ZZnewParser.
-/
import Derived.Test.Qxb6616070aFmtPRead
import Derived.Deep.OwnRows
import Derived.RegionTactic
import Derived.BigRegion
namespace Go.Proofs.Qxb6616070aFmt
open Go.RowKit

/-- From place off of block b on, n numbers. -/
def NumsIn (k : IntKind) (w : World) (b off n : Nat) (z : Nat → Int) : Prop := ∀ j, j < n → w.cell? ⟨b, off + j, none⟩ = some (.int k (z j))
/-- From place off of block b on, n strings. -/
def StrsIn (w : World) (b off n : Nat) (s : Nat → ByteArray) : Prop := ∀ j, j < n → w.cell? ⟨b, off + j, none⟩ = some (.string (s j))

theorem NumsIn.below {k : IntKind} {w w' : World} {b off n B : Nat} {z : Nat → Int} (h : NumsIn k w b off n z) (hb : Below B w w') (hB : b < B) : NumsIn k w' b off n z :=
  fun j hj => by rw [hb.cell hB]; exact h j hj
theorem StrsIn.below {w w' : World} {b off n B : Nat} {z : Nat → ByteArray} (h : StrsIn w b off n z) (hb : Below B w w') (hB : b < B) : StrsIn w' b off n z :=
  fun j hj => by rw [hb.cell hB]; exact h j hj

/-- Cell c of the row of tokens. -/
def tokCell (K : Nat → Int) (T : Nat → ByteArray) (P E : Nat → Int) (c : Nat) : Value :=
  if c % 4 = 0 then .int .u8 (K (c / 4)) else if c % 4 = 1 then .string (T (c / 4)) else if c % 4 = 2 then .int .i64 (P (c / 4)) else .int .i64 (E (c / 4))

def zeroCell (c : Nat) : Value := tokCell (fun _ => 0) (fun _ => ⟨#[]⟩) (fun _ => 0) (fun _ => 0) c

/-- What make lays for n tokens. -/
def zeroToks (n : Nat) : Array Value := madeCells #[.int .u8 0, .string ⟨#[]⟩, .int .i64 0, .int .i64 0] (n * 4)

theorem info71 : (Tryf.prog.info? 71).map (fun i => (i.zero, i.size, i.bytes)) = some (some (.agg #[.int .u8 0, .string ⟨#[]⟩, .int .i64 0, .int .i64 0]), 4, 40) := by kernel_rfl

theorem make71 (n : Nat) (hn : n ≤ 1048576) (w : World) : (Instr.makeSlice 47 (.int .i64 (n : Int)) (.int .i64 (n : Int))).run Tryf.prog w = .ok (.slice (some ⟨w.heap.size, 0, none⟩) n n) (w.alloc (.cells (zeroToks n) 71)) := by
  obtain ⟨i, hi, hz⟩ := Option.map_eq_some_iff.1 info71
  simp only [Prod.mk.injEq] at hz
  obtain ⟨hz, hs, hb⟩ := hz
  have hr := run_make (P := Tryf.prog) w 47 71 i _ Tryf.underlying47 hi hz .i64 .i64 n n (by omega) (Int.le_refl _) (by rw [hb]; omega) (by omega)
  simp only [Int.toNat_natCast, hs] at hr
  exact hr

theorem zeroToks_row (w : World) (n : Nat) : (w.alloc (.cells (zeroToks n) 71)).rowIs w.heap.size 71 (n * 4) zeroCell := by
  have hsz : (zeroToks n).size = n * 4 := size_madeCells _ _
  have h := World.rowIs_alloc w (zeroToks n) 71 zeroCell (fun i hi => ?_)
  · rwa [hsz] at h
  · rw [hsz] at hi
    have h4 : i % 4 = 0 ∨ i % 4 = 1 ∨ i % 4 = 2 ∨ i % 4 = 3 := by omega
    rcases h4 with h | h | h | h <;> simp [zeroToks, madeCells, hi, zeroCell, tokCell, h]

/-- One token more. -/
theorem tok_step {wr : World} {B k n : Nat} (K : Nat → Int) (T : Nat → ByteArray) (P E : Nat → Int) (h : wr.rowIs B 71 (n * 4) (fun c => if c / 4 < k then tokCell K T P E c else zeroCell c)) :
    ((((wr.setCell ⟨B, k * 4, none⟩ (.int .u8 (K k))).setCell ⟨B, k * 4 + 1, none⟩ (.string (T k))).setCell ⟨B, k * 4 + 2, none⟩ (.int .i64 (P k))).setCell ⟨B, k * 4 + 3, none⟩ (.int .i64 (E k))).drew.rowIs
      B 71 (n * 4) (fun c => if c / 4 < k + 1 then tokCell K T P E c else zeroCell c) := by
  refine ((((h.set (k * 4) _).set (k * 4 + 1) _).set (k * 4 + 2) _).set (k * 4 + 3) _).drew.congr (fun c _ => ?_)
  by_cases e3 : c = k * 4 + 3
  · subst e3
    rw [if_pos rfl, if_pos (by omega), tokCell, if_neg (by omega), if_neg (by omega), if_neg (by omega), show (k * 4 + 3) / 4 = k by omega]
  · rw [if_neg e3]
    by_cases e2 : c = k * 4 + 2
    · subst e2
      rw [if_pos rfl, if_pos (by omega), tokCell, if_neg (by omega), if_neg (by omega), if_pos (by omega), show (k * 4 + 2) / 4 = k by omega]
    · rw [if_neg e2]
      by_cases e1 : c = k * 4 + 1
      · subst e1
        rw [if_pos rfl, if_pos (by omega), tokCell, if_neg (by omega), if_pos (by omega), show (k * 4 + 1) / 4 = k by omega]
      · rw [if_neg e1]
        by_cases e0 : c = k * 4
        · subst e0
          rw [if_pos rfl, if_pos (by omega), tokCell, if_pos (by omega), show (k * 4) / 4 = k by omega]
        · rw [if_neg e0]
          by_cases hc : c / 4 < k
          · rw [if_pos hc, if_pos (by omega)]
          · rw [if_neg hc, if_neg (by omega)]

set_option maxRecDepth 100000 in
set_option maxHeartbeats 1600000 in
theorem tokens_c (w : World) (kb ko kc xb xo xc qb qo qc eb eo ec n : Nat) (K : Nat → Int) (T : Nat → ByteArray) (P E : Nat → Int) (hn : n ≤ 1048576)
    (hk : NumsIn .u8 w kb ko n K) (hx : StrsIn w xb xo n T) (hq : NumsIn .i64 w qb qo n P) (he : NumsIn .i64 w eb eo n E)
    (bk : kb < w.heap.size) (bx : xb < w.heap.size) (bq : qb < w.heap.size) (be : eb < w.heap.size) :
    Calls Tryf.prog 25 #[.slice (some ⟨kb, ko, none⟩) n kc, .slice (some ⟨xb, xo, none⟩) n xc, .slice (some ⟨qb, qo, none⟩) n qc, .slice (some ⟨eb, eo, none⟩) n ec] w
      fun e w' => e = .returned (.slice (some ⟨w.heap.size, 0, none⟩) n n) ∧ w'.rowIs w.heap.size 71 (n * 4) (tokCell K T P E) ∧ Below w.heap.size w w' := by
  have hmk := make71 n hn
  go_enter Tryf.func25, Tryf.ntmps25
  go_wp2_with fail
  clear hmk
  go_loopw [10] (fun v wr => ∃ k : Nat, v = .int .i64 k ∧ k ≤ n ∧ wr.rowIs w.heap.size 71 (n * 4) (fun c => if c / 4 < k then tokCell K T P E c else zeroCell c) ∧ Below w.heap.size w wr) (fun v _ => n - (intOf v).toNat)
  case atStart => exact ⟨0, rfl, by omega, (zeroToks_row w n).congr (fun i _ => by simp), (Below.refl _ _).alloc (Nat.le_refl _) _⟩
  case round =>
    obtain ⟨k, rfl, hkn, hrow, hb⟩ := hrel
    by_cases hlt : k < n
    · have k0 := (hk.below hb bk) k hlt
      have k1 := (hx.below hb bx) k hlt
      have k2 := (hq.below hb bq) k hlt
      have k3 := (he.below hb be) k hlt
      have c0 := hrow.cell (i := k * 4) (by omega)
      have c1 := hrow.cell (i := k * 4 + 1) (by omega)
      have c2 := hrow.cell (i := k * 4 + 2) (by omega)
      have c3 := hrow.cell (i := k * 4 + 3) (by omega)
      have f := hrow.frozen
      have HR : Hid (wr.rowIs w.heap.size 71 (n * 4) (fun c => if c / 4 < k then tokCell K T P E c else zeroCell c)) := hrow
      have HB : Hid (Below w.heap.size w wr) := hb
      clear hrow hb hk hx hq he
      go_wp2_with fail
      go_region
      all_goals go_wp2
      all_goals go_roundw
      case rel =>
        exact ⟨k + 1, by simp, hlt, tok_step K T P E HR.out, ((((HB.out.setCell (Nat.le_refl _) _).setCell (Nat.le_refl _) _).setCell (Nat.le_refl _) _).setCell (Nat.le_refl _) _).drew⟩
      case measure => simp [intOf]; omega
    · have hkn' : k = n := by omega
      have HR : Hid (wr.rowIs w.heap.size 71 (n * 4) (tokCell K T P E)) := hrow.congr (fun i hi => by rw [if_pos (by omega)])
      have HB : Hid (Below w.heap.size w wr) := hb
      clear hrow hb hk hx hq he
      go_wp2_with fail
      go_ret
      exact ⟨rfl, HR.out, HB.out⟩

/-- The tokens of four fields side by side. -/
def mkToks (n : Nat) (K : Nat → Int) (T : Nat → ByteArray) (P E : Nat → Int) : List Tok := (List.range n).map fun j => ⟨K j, T j, P j, E j⟩

theorem mkToks_length (n : Nat) (K : Nat → Int) (T : Nat → ByteArray) (P E : Nat → Int) : (mkToks n K T P E).length = n := by simp [mkToks]

theorem tk_mk {n : Nat} {K : Nat → Int} {T : Nat → ByteArray} {P E : Nat → Int} {j : Nat} (h : j < n) : tk (mkToks n K T P E) j = ⟨K j, T j, P j, E j⟩ := by
  simp [tk, mkToks, h]

/-- A new parser over a row of tokens. -/
theorem at_new {w1 : World} {src : ByteArray} {B n i : Nat} {K : Nat → Int} {T : Nat → ByteArray} {P E : Nat → Int} (hok : TokOK src (mkToks n K T P E)) (hi : i < n) (hr : w1.rowIs B 71 (n * 4) (tokCell K T P E)) (v3 v4 v5 v6 : Value) :
    AtTok (w1.alloc (.cells #[.string src, .slice (some ⟨B, 0, none⟩) n n, .int .i64 i, v3, v4, v5, v6] 53)) w1.heap.size B src (mkToks n K T P E) i := by
  have hn : (w1.alloc (.cells #[.string src, .slice (some ⟨B, 0, none⟩) n n, .int .i64 i, v3, v4, v5, v6] 53)).heap[w1.heap.size]? = some (.cells #[.string src, .slice (some ⟨B, 0, none⟩) n n, .int .i64 i, v3, v4, v5, v6] 53) := by
    show (w1.heap.push _)[w1.heap.size]? = _
    simp
  have hs : (w1.alloc (.cells #[.string src, .slice (some ⟨B, 0, none⟩) n n, .int .i64 i, v3, v4, v5, v6] 53)).heap.size = w1.heap.size + 1 := by simp
  have hl := hr.lt
  have ha := hr.alloc (.cells #[.string src, .slice (some ⟨B, 0, none⟩) n n, .int .i64 i, v3, v4, v5, v6] 53)
  have hlen := mkToks_length n K T P E
  refine ⟨hok, by rw [hlen]; exact hi, by omega, by omega, by omega, (cell_of_block hn 0).trans rfl, (by rw [hlen]; exact cell_of_block hn 1), (cell_of_block hn 2).trans rfl, frozen_of_block hn 2, fun j hj => ?_, fun j hj => ?_, fun j hj => ?_, fun j hj => ?_⟩
  all_goals rw [hlen] at hj
  all_goals rw [tk_mk hj, ha.cell (by omega)]
  · rw [tokCell, if_pos (by omega), show (j * 4) / 4 = j by omega]
  · rw [tokCell, if_neg (by omega), if_pos (by omega), show (j * 4 + 1) / 4 = j by omega]
  · rw [tokCell, if_neg (by omega), if_neg (by omega), if_pos (by omega), show (j * 4 + 2) / 4 = j by omega]
  · rw [tokCell, if_neg (by omega), if_neg (by omega), if_neg (by omega), show (j * 4 + 3) / 4 = j by omega]

set_option maxHeartbeats 800000 in
theorem newParser_c (w : World) (src : ByteArray) (kb ko kc xb xo xc qb qo qc eb eo ec n i : Nat) (K : Nat → Int) (T : Nat → ByteArray) (P E : Nat → Int) (hok : TokOK src (mkToks n K T P E)) (hi : i < n)
    (hk : NumsIn .u8 w kb ko n K) (hx : StrsIn w xb xo n T) (hq : NumsIn .i64 w qb qo n P) (he : NumsIn .i64 w eb eo n E)
    (bk : kb < w.heap.size) (bx : xb < w.heap.size) (bq : qb < w.heap.size) (be : eb < w.heap.size) :
    Calls Tryf.prog 10 #[.string src, .slice (some ⟨kb, ko, none⟩) n kc, .slice (some ⟨xb, xo, none⟩) n xc, .slice (some ⟨qb, qo, none⟩) n qc, .slice (some ⟨eb, eo, none⟩) n ec, .int .i64 i] w
      fun e w' => ∃ pb, e = .returned (.pointer (some ⟨pb, 0, none⟩)) ∧ w.heap.size < pb ∧ AtTok w' pb w.heap.size src (mkToks n K T P E) i ∧ Below w.heap.size w w' := by
  have hn : n ≤ 1048576 := by
    have := hok.short
    rwa [mkToks_length] at this
  go_enter Tryf.func10, Tryf.ntmps10
  go_wp2_with fail
  refine (tokens_c _ kb ko kc xb xo xc qb qo qc eb eo ec n K T P E hn (by exact hk) (by exact hx) (by exact hq) (by exact he) bk bx bq be).mono ?_
  rintro e w1 ⟨rfl, hrow, hb⟩
  have HR : Hid (w1.rowIs w.heap.size 71 (n * 4) (tokCell K T P E)) := hrow
  have HB : Hid (Below w.heap.size w w1) := hb
  clear hrow hb hk hx hq he
  go_wp2_with fail
  go_ret
  exact ⟨w1.heap.size, rfl, HR.out.lt, at_new hok hi HR.out _ _ _ _, HB.out.alloc HB.out.size _⟩

end Go.Proofs.Qxb6616070aFmt
