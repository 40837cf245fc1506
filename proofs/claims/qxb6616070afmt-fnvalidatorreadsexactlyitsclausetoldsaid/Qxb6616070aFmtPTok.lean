/-
  THE PARSER's STATE IN MEMORY: a token as data; the parser struct over its row of tokens; what a call that only reads leaves of it.
-/
import Derived.Test.Qxb6616070aFmtRows
import Derived.WalkKit
import Derived.WalkSpells
namespace Go.Proofs.Qxb6616070aFmt
open Go.RowKit

/-- A token: its kind, its text, where it starts and where it ends. -/
structure Tok where
  kind : Int
  text : ByteArray
  pos : Int
  stop : Int

/-- The token as a value of the struct type. -/
def Tok.val (t : Tok) : Value := .agg #[.int .u8 t.kind, .string t.text, .int .i64 t.pos, .int .i64 t.stop]

def noTok : Tok := ⟨0, ⟨#[]⟩, 0, 0⟩

/-- Token j of the list. -/
def tk (ts : List Tok) (j : Nat) : Tok := ts.getD j noTok

/-- Token j of the list, or the last one past the end. -/
def tokAt (ts : List Tok) (j : Nat) : Tok := if j < ts.length then tk ts j else tk ts (ts.length - 1)

/-- A lexed stream over src: one token of kind 0, and it last; no kind above 8; every span inside src; all of it small. -/
structure TokOK (src : ByteArray) (ts : List Tok) : Prop where
  ne : 0 < ts.length
  short : ts.length ≤ 1048576
  small : ∀ j, (tk ts j).text.size ≤ 1048576
  eof : ∀ j, j < ts.length → ((tk ts j).kind = 0 ↔ j + 1 = ts.length)
  low : ∀ j, 0 ≤ (tk ts j).kind ∧ (tk ts j).kind ≤ 8
  span : ∀ j, j < ts.length → 0 ≤ (tk ts j).pos ∧ (tk ts j).pos ≤ (tk ts j).stop ∧ (tk ts j).stop ≤ src.size
  srcShort : src.size ≤ 1048576

/-- The parser at block pb, over the row of tokens at block tb, stands at token i. -/
structure AtTok (w : World) (pb tb : Nat) (src : ByteArray) (ts : List Tok) (i : Nat) : Prop where
  ok : TokOK src ts
  place : i < ts.length
  pin : pb < w.heap.size
  tin : tb < w.heap.size
  apart : pb ≠ tb
  csrc : w.cell? ⟨pb, 0, none⟩ = some (.string src)
  ctoks : w.cell? ⟨pb, 1, none⟩ = some (.slice (some ⟨tb, 0, none⟩) ts.length ts.length)
  cat : w.cell? ⟨pb, 2, none⟩ = some (.int .i64 i)
  copen : w.frozen? ⟨pb, 2, none⟩ = false
  ckind : ∀ j, j < ts.length → w.cell? ⟨tb, j * 4, none⟩ = some (.int .u8 (tk ts j).kind)
  ctext : ∀ j, j < ts.length → w.cell? ⟨tb, j * 4 + 1, none⟩ = some (.string (tk ts j).text)
  cpos : ∀ j, j < ts.length → w.cell? ⟨tb, j * 4 + 2, none⟩ = some (.int .i64 (tk ts j).pos)
  cstop : ∀ j, j < ts.length → w.cell? ⟨tb, j * 4 + 3, none⟩ = some (.int .i64 (tk ts j).stop)

theorem AtTok.below {w w' : World} {pb tb : Nat} {src : ByteArray} {ts : List Tok} {i : Nat} (h : AtTok w pb tb src ts i) (hb : Below w.heap.size w w') : AtTok w' pb tb src ts i where
  ok := h.ok
  place := h.place
  pin := Nat.lt_of_lt_of_le h.pin hb.size
  tin := Nat.lt_of_lt_of_le h.tin hb.size
  apart := h.apart
  csrc := by rw [hb.cell h.pin]; exact h.csrc
  ctoks := by rw [hb.cell h.pin]; exact h.ctoks
  cat := by rw [hb.cell h.pin]; exact h.cat
  copen := by rw [hb.frozen h.pin]; exact h.copen
  ckind := fun j hj => by rw [hb.cell h.tin]; exact h.ckind j hj
  ctext := fun j hj => by rw [hb.cell h.tin]; exact h.ctext j hj
  cpos := fun j hj => by rw [hb.cell h.tin]; exact h.cpos j hj
  cstop := fun j hj => by rw [hb.cell h.tin]; exact h.cstop j hj

theorem AtTok.smallAt {w : World} {pb tb : Nat} {src : ByteArray} {ts : List Tok} {i : Nat} (h : AtTok w pb tb src ts i) (j : Nat) : (tokAt ts j).text.size ≤ 1048576 := by
  unfold tokAt
  split
  · exact h.ok.small _
  · exact h.ok.small _

/-- But for cell 2 of block pb (the parser's place), of what was there nothing has turned. -/
structure Near (pb : Nat) (w w' : World) : Prop where
  os : w'.os = w.os
  tape : w'.tape = w.tape
  output : w'.output = w.output
  size : w.heap.size ≤ w'.heap.size
  block : ∀ k, k < w.heap.size → k ≠ pb → w'.heap[k]? = w.heap[k]?
  cells : ∀ o, o ≠ 2 → w'.cell? ⟨pb, o, none⟩ = w.cell? ⟨pb, o, none⟩
  froz : ∀ o, w'.frozen? ⟨pb, o, none⟩ = w.frozen? ⟨pb, o, none⟩

theorem Near.trans {pb : Nat} {a b c : World} (h : Near pb a b) (k : Near pb b c) : Near pb a c where
  os := k.os.trans h.os
  tape := k.tape.trans h.tape
  output := k.output.trans h.output
  size := Nat.le_trans h.size k.size
  block := fun i hi hn => (k.block i (Nat.lt_of_lt_of_le hi h.size) hn).trans (h.block i hi hn)
  cells := fun o ho => (k.cells o ho).trans (h.cells o ho)
  froz := fun o => (k.froz o).trans (h.froz o)

theorem Near.of_below {pb : Nat} {w w' : World} (h : Below w.heap.size w w') (hp : pb < w.heap.size) : Near pb w w' where
  os := h.os
  tape := h.tape
  output := h.output
  size := h.size
  block := fun k hk _ => h.block k hk
  cells := fun _ _ => h.cell hp
  froz := fun _ => h.frozen hp

/-- The parser moves on. -/
theorem Near.move {pb : Nat} {w : World} (v : Value) : Near pb w (w.setCell ⟨pb, 2, none⟩ v) where
  os := rfl
  tape := rfl
  output := rfl
  size := by simp [World.setCell]
  block := fun k _ hn => Below.heap_setCell w _ v k hn
  cells := fun o ho => World.cell?_setCell_other _ _ _ _ (by simp only [ne_eq, Addr.mk.injEq]; omega)
  froz := fun _ => World.frozen?_setCell _ _ _ _

/-- A store into one of the call's own blocks. -/
theorem Near.setCell {pb : Nat} {w w1 : World} (h : Near pb w w1) (hp : pb < w.heap.size) {p : Addr} (hb : w.heap.size ≤ p.block) (v : Value) : Near pb w (w1.setCell p v) where
  os := h.os
  tape := h.tape
  output := h.output
  size := Nat.le_trans h.size (by simp [World.setCell])
  block := fun k hk hn => (Below.heap_setCell w1 p v k (by omega)).trans (h.block k hk hn)
  cells := fun o ho => (World.cell?_of_block (w := w1) (Below.heap_setCell w1 p v pb (by omega))).trans (h.cells o ho)
  froz := fun o => (World.frozen?_setCell _ _ _ _).trans (h.froz o)

theorem Near.alloc {pb : Nat} {w w1 : World} (h : Near pb w w1) (hp : pb < w.heap.size) (o : Obj) : Near pb w (w1.alloc o) :=
  h.trans (Near.of_below ((Below.refl _ w1).alloc (Nat.le_refl _) o) (Nat.lt_of_lt_of_le hp h.size))

theorem Near.drew {pb : Nat} {w w1 : World} (h : Near pb w w1) : Near pb w w1.drew := ⟨h.os, h.tape, h.output, h.size, h.block, h.cells, h.froz⟩

theorem Near.cell {pb : Nat} {w w' : World} (h : Near pb w w') {p : Addr} (hp : p.block < w.heap.size) (hn : p.block ≠ pb) : w'.cell? p = w.cell? p := World.cell?_of_block (w := w) (h.block p.block hp hn)

theorem AtTok.near {w w' : World} {pb tb : Nat} {src : ByteArray} {ts : List Tok} {i i' : Nat} (h : AtTok w pb tb src ts i) (hb : Near pb w w') (hc : w'.cell? ⟨pb, 2, none⟩ = some (.int .i64 i')) (hi : i' < ts.length) : AtTok w' pb tb src ts i' where
  ok := h.ok
  place := hi
  pin := Nat.lt_of_lt_of_le h.pin hb.size
  tin := Nat.lt_of_lt_of_le h.tin hb.size
  apart := h.apart
  csrc := by rw [hb.cells 0 (by omega)]; exact h.csrc
  ctoks := by rw [hb.cells 1 (by omega)]; exact h.ctoks
  cat := hc
  copen := by rw [hb.froz]; exact h.copen
  ckind := fun j hj => by rw [hb.cell h.tin (Ne.symm h.apart)]; exact h.ckind j hj
  ctext := fun j hj => by rw [hb.cell h.tin (Ne.symm h.apart)]; exact h.ctext j hj
  cpos := fun j hj => by rw [hb.cell h.tin (Ne.symm h.apart)]; exact h.cpos j hj
  cstop := fun j hj => by rw [hb.cell h.tin (Ne.symm h.apart)]; exact h.cstop j hj

/-- w' is near w, and the parser's place reads v. -/
structure Moved (pb : Nat) (w w' : World) (v : Value) : Prop where
  near : Near pb w w'
  cell : w'.cell? ⟨pb, 2, none⟩ = some v

theorem Moved.start {pb : Nat} {w w1 : World} {u : Value} (h : Near pb w w1) (hc : w1.cell? ⟨pb, 2, none⟩ = some u) (v : Value) : Moved pb w (w1.setCell ⟨pb, 2, none⟩ v) v :=
  ⟨h.trans (Near.move v), World.cell?_setCell_same _ _ _ hc⟩

theorem Moved.setCell {pb : Nat} {w w1 : World} {v : Value} (h : Moved pb w w1 v) (hp : pb < w.heap.size) {p : Addr} (hb : w.heap.size ≤ p.block) (u : Value) : Moved pb w (w1.setCell p u) v :=
  ⟨h.near.setCell hp hb u, (World.cell?_of_block (w := w1) (Below.heap_setCell w1 p u pb (by omega))).trans h.cell⟩

theorem Moved.alloc {pb : Nat} {w w1 : World} {v : Value} (h : Moved pb w w1 v) (hp : pb < w.heap.size) (o : Obj) : Moved pb w (w1.alloc o) v :=
  ⟨h.near.alloc hp o, (World.cell?_of_block (w := w1) (Below.heap_alloc w1 o pb (Nat.lt_of_lt_of_le hp h.near.size))).trans h.cell⟩

theorem Moved.at_ {pb tb : Nat} {w w1 : World} {src : ByteArray} {ts : List Tok} {i j : Nat} (h : Moved pb w w1 (.int .i64 j)) (hA : AtTok w pb tb src ts i) (hj : j < ts.length) : AtTok w1 pb tb src ts j := hA.near h.near h.cell hj

end Go.Proofs.Qxb6616070aFmt
