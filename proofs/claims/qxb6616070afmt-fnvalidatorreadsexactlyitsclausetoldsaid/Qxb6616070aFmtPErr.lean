/-
  THE ERRORS: fmt's stopped front in this dump; sqlerr.At at the two formats that nearToken hands it.
-/
import Derived.Test.Qxb6616070aFmtPWord
import Derived.Stop.CallBack
import Derived.Stop.IfaceNil
namespace Go.Proofs.Qxb6616070aFmt
open Go.RowKit Go.Extern.Stop Go.Stop Go.Extern

theorem Tryf.call81 (args : Array Value) (w : World) : (callFunc 81 args).run Tryf.prog w = (FmtCalls.sprintf #[9, 113] #[9] args).run Tryf.prog w :=
  run_callFunc_next Tryf.func81 (by kernel_rfl) (by kernel_rfl) (by kernel_rfl) args w
theorem Tryf.guard (name : String) (w : World) : (FmtStop.guard name).run Tryf.prog w = .ok () w := by kernel_rfl
theorem Tryf.nextTurns : Extern.next FmtCalls.turnsRow = some (FmtCalls.begun #[] #[]) := by kernel_rfl
theorem Tryf.fmtEnd : FmtStop.printed? ⟨#[37, 115, 32, 97, 116, 32, 101, 110, 100, 32, 111, 102, 32, 105, 110, 112, 117, 116]⟩ 1 = some [(0, 115, false)] := by kernel_rfl
theorem Tryf.fmtNear : FmtStop.printed? ⟨#[37, 115, 32, 97, 116, 32, 111, 114, 32, 110, 101, 97, 114, 32, 34, 37, 115, 34]⟩ 2 = some [(0, 115, false), (1, 115, false)] := by kernel_rfl
def Tryf.shape9 : List UInt8 := [12, 6, 0, 0, 0, 0, 0, 0, 0, 115, 116, 114, 105, 110, 103]
theorem Tryf.act9 (name : String) (x : Value) (w : World) : (FmtCalls.act name false 115 false (.iface 9 x)).run Tryf.prog w = .ok (.closed false) w := by kernel_rfl
theorem Tryf.op9 (name : String) (x : ByteArray) (w : World) : (FmtStop.operand name false 115 false (.iface 9 (.string x))).run Tryf.prog w = .ok (Tryf.shape9, FmtStop.pack x.data.toList) w := by kernel_rfl

/-- Block b holds an error 42601 at the place pos. -/
structure ErrAt (w : World) (b : Nat) (pos : Int) : Prop where
  bin : b < w.heap.size
  code : w.cell? ⟨b, 1, none⟩ = some (.string ⟨#[52, 50, 54, 48, 49]⟩)
  pos : w.cell? ⟨b, 5, none⟩ = some (.int .i64 (pos + 1))

/-- A call that began in w has ended in w' with the error at the new block g. -/
structure Failed (w w' : World) (g : Nat) (pos : Int) : Prop where
  new : w.heap.size ≤ g
  err : ErrAt w' g pos
  below : Below w.heap.size w w'

theorem Failed.after {w w1 w' : World} {g : Nat} {pos : Int} (h : Failed w1 w' g pos) (hb : Below w.heap.size w w1) : Failed w w' g pos :=
  ⟨Nat.le_trans hb.size h.new, h.err, hb.trans (h.below.mono hb.size)⟩

/-- The new error. -/
theorem errAt_new (w : World) (pos : Int) (a0 a2 a3 a4 a6 a7 a8 a9 a10 : Value) :
    Failed w (w.alloc (.cells #[a0, .string ⟨#[52, 50, 54, 48, 49]⟩, a2, a3, a4, .int .i64 (pos + 1), a6, a7, a8, a9, a10] 75)).drew w.heap.size pos := by
  refine ⟨Nat.le_refl _, ⟨?_, ?_, ?_⟩, ((Below.refl _ w).alloc (Nat.le_refl _) _).drew⟩
  · show w.heap.size < (w.heap.push _).size
    simp
  · have hn : (w.alloc (.cells #[a0, .string ⟨#[52, 50, 54, 48, 49]⟩, a2, a3, a4, .int .i64 (pos + 1), a6, a7, a8, a9, a10] 75)).drew.heap[w.heap.size]? = some (.cells #[a0, .string ⟨#[52, 50, 54, 48, 49]⟩, a2, a3, a4, .int .i64 (pos + 1), a6, a7, a8, a9, a10] 75) := by
      show (w.heap.push _)[w.heap.size]? = _
      simp
    exact cell_of_block hn 1
  · have hn : (w.alloc (.cells #[a0, .string ⟨#[52, 50, 54, 48, 49]⟩, a2, a3, a4, .int .i64 (pos + 1), a6, a7, a8, a9, a10] 75)).drew.heap[w.heap.size]? = some (.cells #[a0, .string ⟨#[52, 50, 54, 48, 49]⟩, a2, a3, a4, .int .i64 (pos + 1), a6, a7, a8, a9, a10] 75) := by
      show (w.heap.push _)[w.heap.size]? = _
      simp
    exact cell_of_block hn 5

attribute [local go_sem] Tryf.call81 Tryf.guard Tryf.fmtEnd Tryf.fmtNear Tryf.act9 Tryf.op9

set_option maxHeartbeats 800000 in
theorem at_end (F : Interp) (w : World) (hF : F.answers w.tape) (pos : Int) (h0 : 0 ≤ pos) (h1 : pos ≤ 1048576) (b : Nat) (s : ByteArray) (hc : w.cell? ⟨b, 0, none⟩ = some (.iface 9 (.string s))) :
    Calls Tryf.prog 68 #[.int .i64 pos, .string ⟨#[52, 50, 54, 48, 49]⟩, .string ⟨#[37, 115, 32, 97, 116, 32, 101, 110, 100, 32, 111, 102, 32, 105, 110, 112, 117, 116]⟩, .slice (some ⟨b, 0, none⟩) 1 1] w
      fun e w' => ∃ g, e = .returned (.pointer (some ⟨g, 0, none⟩)) ∧ Failed w w' g pos := by
  have hF' := answers_open hF
  go_enter Tryf.func68, Tryf.ntmps68
  go_wp2
  apply rows_value Tryf.nextTurns
  case hr =>
    go_simp
    exact ⟨rfl, rfl⟩
  case h =>
    go_wp2
    go_ret
    exact ⟨_, rfl, errAt_new w pos _ _ _ _ _ _ _ _ _⟩

set_option maxHeartbeats 800000 in
theorem at_near (F : Interp) (w : World) (hF : F.answers w.tape) (pos : Int) (h0 : 0 ≤ pos) (h1 : pos ≤ 1048576) (b : Nat) (s t : ByteArray) (hc : w.cell? ⟨b, 0, none⟩ = some (.iface 9 (.string s)))
    (hd : w.cell? ⟨b, 1, none⟩ = some (.iface 9 (.string t))) :
    Calls Tryf.prog 68 #[.int .i64 pos, .string ⟨#[52, 50, 54, 48, 49]⟩, .string ⟨#[37, 115, 32, 97, 116, 32, 111, 114, 32, 110, 101, 97, 114, 32, 34, 37, 115, 34]⟩, .slice (some ⟨b, 0, none⟩) 2 2] w
      fun e w' => ∃ g, e = .returned (.pointer (some ⟨g, 0, none⟩)) ∧ Failed w w' g pos := by
  have hF' := answers_open hF
  go_enter Tryf.func68, Tryf.ntmps68
  go_wp2
  apply rows_value Tryf.nextTurns
  case hr =>
    go_simp
    exact ⟨rfl, rfl⟩
  case h =>
    go_wp2
    go_ret
    exact ⟨_, rfl, errAt_new w pos _ _ _ _ _ _ _ _ _⟩

end Go.Proofs.Qxb6616070aFmt
