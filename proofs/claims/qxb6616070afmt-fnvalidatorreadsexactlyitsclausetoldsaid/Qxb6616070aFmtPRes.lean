/-
  THE TABLE reserved: what it holds, and what a look-up in it gives.
-/
import Derived.Test.Qxb6616070aFmtPTok
import Derived.ProofKit
namespace Go.Proofs.Qxb6616070aFmt
open Go.RowKit Go.WideElems
open Go.WideMaps (keyOf_string_mk string_law)

/-- The reserved words, byte by byte. -/
def resWords : List (List UInt8) := [[97, 108, 108], [97, 110, 97, 108, 121, 115, 101], [97, 110, 97, 108, 121, 122, 101], [97, 110, 100], [97, 110, 121], [97, 114, 114, 97, 121], [97, 115], [97, 115, 99], [97, 115, 121, 109, 109, 101, 116, 114, 105, 99], [97, 117, 116, 104, 111, 114, 105, 122, 97, 116, 105, 111, 110], [98, 105, 110, 97, 114, 121], [98, 111, 116, 104], [99, 97, 115, 101], [99, 97, 115, 116], [99, 104, 101, 99, 107], [99, 111, 108, 108, 97, 116, 101], [99, 111, 108, 108, 97, 116, 105, 111, 110], [99, 111, 108, 117, 109, 110], [99, 111, 110, 99, 117, 114, 114, 101, 110, 116, 108, 121], [99, 111, 110, 115, 116, 114, 97, 105, 110, 116], [99, 114, 101, 97, 116, 101], [99, 114, 111, 115, 115], [99, 117, 114, 114, 101, 110, 116, 95, 99, 97, 116, 97, 108, 111, 103], [99, 117, 114, 114, 101, 110, 116, 95, 100, 97, 116, 101], [99, 117, 114, 114, 101, 110, 116, 95, 114, 111, 108, 101], [99, 117, 114, 114, 101, 110, 116, 95, 115, 99, 104, 101, 109, 97], [99, 117, 114, 114, 101, 110, 116, 95, 116, 105, 109, 101], [99, 117, 114, 114, 101, 110, 116, 95, 116, 105, 109, 101, 115, 116, 97, 109, 112], [99, 117, 114, 114, 101, 110, 116, 95, 117, 115, 101, 114], [100, 101, 102, 97, 117, 108, 116], [100, 101, 102, 101, 114, 114, 97, 98, 108, 101], [100, 101, 115, 99], [100, 105, 115, 116, 105, 110, 99, 116], [100, 111], [101, 108, 115, 101], [101, 110, 100], [101, 120, 99, 101, 112, 116], [102, 97, 108, 115, 101], [102, 101, 116, 99, 104], [102, 111, 114], [102, 111, 114, 101, 105, 103, 110], [102, 114, 101, 101, 122, 101], [102, 114, 111, 109], [102, 117, 108, 108], [103, 114, 97, 110, 116], [103, 114, 111, 117, 112], [104, 97, 118, 105, 110, 103], [105, 108, 105, 107, 101], [105, 110], [105, 110, 105, 116, 105, 97, 108, 108, 121], [105, 110, 110, 101, 114], [105, 110, 116, 101, 114, 115, 101, 99, 116], [105, 110, 116, 111], [105, 115], [105, 115, 110, 117, 108, 108], [106, 111, 105, 110], [108, 97, 116, 101, 114, 97, 108], [108, 101, 97, 100, 105, 110, 103], [108, 101, 102, 116], [108, 105, 107, 101], [108, 105, 109, 105, 116], [108, 111, 99, 97, 108, 116, 105, 109, 101], [108, 111, 99, 97, 108, 116, 105, 109, 101, 115, 116, 97, 109, 112], [110, 97, 116, 117, 114, 97, 108], [110, 111, 116], [110, 111, 116, 110, 117, 108, 108], [110, 117, 108, 108], [111, 102, 102, 115, 101, 116], [111, 110], [111, 110, 108, 121], [111, 114], [111, 114, 100, 101, 114], [111, 117, 116, 101, 114], [111, 118, 101, 114, 108, 97, 112, 115], [112, 108, 97, 99, 105, 110, 103], [112, 114, 105, 109, 97, 114, 121], [114, 101, 102, 101, 114, 101, 110, 99, 101, 115], [114, 101, 116, 117, 114, 110, 105, 110, 103], [114, 105, 103, 104, 116], [115, 101, 108, 101, 99, 116], [115, 101, 115, 115, 105, 111, 110, 95, 117, 115, 101, 114], [115, 105, 109, 105, 108, 97, 114], [115, 111, 109, 101], [115, 121, 109, 109, 101, 116, 114, 105, 99], [116, 97, 98, 108, 101], [116, 97, 98, 108, 101, 115, 97, 109, 112, 108, 101], [116, 104, 101, 110], [116, 111], [116, 114, 97, 105, 108, 105, 110, 103], [116, 114, 117, 101], [117, 110, 105, 111, 110], [117, 110, 105, 113, 117, 101], [117, 115, 101, 114], [117, 115, 105, 110, 103], [118, 97, 114, 105, 97, 100, 105, 99], [118, 101, 114, 98, 111, 115, 101], [119, 104, 101, 110], [119, 104, 101, 114, 101], [119, 105, 110, 100, 111, 119], [119, 105, 116, 104]]

/-- Is it a reserved word? -/
def isRes (s : List UInt8) : Bool := resWords.contains s

/-- The variable reserved lies in block 3; it leads to the map at block mb; a look-up there says whether the word is reserved. -/
structure ResIn (w : World) (mb : Nat) : Prop where
  gin : 3 < w.heap.size
  min : mb < w.heap.size
  cell : w.cell? ⟨3, 0, none⟩ = some (.map (some mb))
  look : ∀ w' : World, w'.heap[mb]? = w.heap[mb]? → ∀ s : ByteArray, s.size ≤ 1048576 → (Instr.lookup 119 (.map (some mb)) (.string s) false).run Tryf.prog w' = .ok (.bool (isRes s.toList)) w'

theorem ResIn.below {w w' : World} {mb : Nat} (h : ResIn w mb) (hb : Below w.heap.size w w') : ResIn w' mb where
  gin := Nat.lt_of_lt_of_le h.gin hb.size
  min := Nat.lt_of_lt_of_le h.min hb.size
  cell := by rw [hb.cell h.gin]; exact h.cell
  look := fun w2 h2 s hs => h.look w2 (h2.trans (hb.block mb h.min)) s hs

theorem atKey_set {H : Type} (ws : List (List UInt8)) (s : List UInt8) :
    (DataW.map (ws.map fun k => (Lit.string k, DataW.lit (.bool true)))).atKey (.string s) (.lit (.bool false)) = (.lit (.bool (ws.contains s)) : DataW H) := by
  simp only [DataW.atKey]
  induction ws with
  | nil => rfl
  | cons k r ih =>
    simp only [List.map_cons, List.find?_cons]
    by_cases hk : k = s
    · subst hk
      simp [Lit.sameKey]
    · have h1 : (Lit.string k).sameKey (.string s) = false := by simp [Lit.sameKey, hk]
      have h2 : (s == k) = false := by simpa using fun e => hk e.symm
      rw [h1]
      simp only [List.contains_cons, h2, Bool.false_or]
      exact ih

theorem zero4 (w : World) : (zeroValue 4).run Tryf.prog w = .ok (.bool false) w := by kernel_rfl
theorem laidSet : Rows.laid_example_com_savepoint_stack_savepoint_stack_internal_parser_reserved (H := Unit) = .map (resWords.map fun k => (Lit.string k, DataW.lit (.bool true))) := rfl
/-- The variable's name, as the row has it. -/
def resName : String := Rows.fnValidatorIgnoresWhatCameBeforeSpec.vars.headD ""
theorem glob3 : Tryf.prog.globalNamed resName = some 3 := by kernel_rfl
theorem glob3t : (Tryf.prog.globals[3]?).map (·.type) = some 119 := by kernel_rfl

theorem laid_one {P : Program} {n : String} {l : List (Lit × DataW Unit)} {w : World} (h : laidMetH P [(n, .map l)] w) :
    ∃ g t cs fuel p, P.globalNamed n = some g ∧ (P.globals[g]?).map (·.type) = some t ∧ w.var? P n = some cs ∧ DataW.trod (fun _ => ()) P w 0 (fun _ => true) false fuel t cs.toList = some (.map l, p) := by
  have h' : laidMet P [(n, .map l)] w := h
  obtain ⟨ps, ⟨g, t, cs, fuel, p, q, hg, ht, hv, htr, _, _⟩, _, _⟩ := h'
  exact ⟨g, t, cs, fuel, p, hg, ht, hv, htr⟩

theorem resIn_gen {w : World} (ws : List (List UInt8)) (h : laidMetH Tryf.prog [(resName, .map (ws.map fun k => (Lit.string k, DataW.lit (.bool true))))] w) :
    ∃ mb, 3 < w.heap.size ∧ mb < w.heap.size ∧ w.cell? ⟨3, 0, none⟩ = some (.map (some mb)) ∧
      ∀ w' : World, w'.heap[mb]? = w.heap[mb]? → ∀ s : ByteArray, s.size ≤ 1048576 → (Instr.lookup 119 (.map (some mb)) (.string s) false).run Tryf.prog w' = .ok (.bool (ws.contains s.toList)) w' := by
  obtain ⟨g, t, cs, fuel, p, hg, ht, hv, htr⟩ := laid_one h
  rw [glob3] at hg
  cases hg
  rw [glob3t] at ht
  cases ht
  have hc := World.var?_cell glob3 hv 0
  rcases WideElems.open_map Tryf.underlying119 htr with ⟨_, hx⟩ | ⟨b, es, clock, n, rfl, hcs, hb, _, F, hx⟩
  · cases hx
  · have hin : b < w.heap.size := by
      rcases Nat.lt_or_ge b w.heap.size with h1 | h1
      · exact h1
      · rw [Array.getElem?_eq_none h1] at hb; cases hb
    have hcs' : cs = #[.map (some b)] := by cases cs; simp_all
    subst hcs'
    have hd : DataW.map ((es.toList.map (rg Tryf.prog 9 (elemAt (fun _ => ()) Tryf.prog w 0 (fun _ => true) false n 4))).foldr DataW.insert []) = (.map (ws.map fun k => (Lit.string k, DataW.lit (.bool true))) : DataW Unit) := by
      exact (congrArg Prod.fst hx).symm
    refine ⟨b, ?_, hin, by simpa using hc, fun w' hw' s hs => ?_⟩
    · rcases Nat.lt_or_ge 3 w.heap.size with h1 | h1
      · exact h1
      · simp [World.var?, glob3, Array.getElem?_eq_none h1] at hv
    · have hkey := keyOf_string_mk Tryf.underlying9 (s := s) (by unfold maxLen; omega)
      have hl : s.data.toList = s.toList := (ByteArray.toList_eq s).symm
      rcases WideElems.fit_lookup (string_law Tryf.underlying9) Tryf.underlying119 (zero4 w') (hw'.trans hb) F hkey with ⟨h1, h2⟩ | ⟨v, y, h1, hR, h2, _⟩
      · have := h2 (.lit (.bool false))
        rw [hd, atKey_set, hl] at this
        rw [h1]
        rw [Lit.bool.inj (DataW.lit.inj this)]
      · obtain ⟨bb, rfl, rfl⟩ := elemAt_bool Tryf.underlying4 hR
        have := h2 (.lit (.bool false))
        rw [hd, atKey_set, hl] at this
        rw [h1]
        rw [Lit.bool.inj (DataW.lit.inj this)]

/-- What the row's premise on the table gives. -/
theorem resIn_of_laid {w : World} (h : laidMetH Tryf.prog [(resName, .map (resWords.map fun k => (Lit.string k, DataW.lit (.bool true))))] w) : ∃ mb, ResIn w mb := by
  obtain ⟨mb, h1, h2, h3, h4⟩ := resIn_gen resWords h
  exact ⟨mb, h1, h2, h3, h4⟩

end Go.Proofs.Qxb6616070aFmt
