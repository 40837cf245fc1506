/-
  HOW THE LAWS' ARGUMENTS ARE OPENED, and how the named variable is read again behind the call.
-/
import Derived.Test.Qxb6616070aFmtPIgn
import Derived.Test.Qxb6616070aFmtPWit
import Derived.ProofKit
import Derived.OpenShut
import Derived.ShutString
import Derived.SliceStrings
import Derived.ChangeOld
import Derived.Below
import Derived.ChangeVars
namespace Go.Proofs.Qxb6616070aFmt
open Go.ChangeShapes Go.WideShapes Go.ChangeAt Go.RowKit
open Go.ChangeMaps (open_string shut_string)

/-- A slice of integers that came in: its length; where it has an element, its cells. -/
theorem nums_came {H : Type} {enc : TypeId × Value → H} {W : World} {t e : TypeId} {k : IntKind} {a : Option Addr} {len cap : Nat} {d : DataW H} {p : List MemPlace} (ht : Tryf.prog.underlying t = some (.slice e)) (he : Tryf.prog.underlying e = some (.int k))
    (hc : Tryf.prog.cellsOf e = 1) (h : DataW.Trod enc Tryf.prog W 0 (fun _ => true) true t (.slice a len cap) d p) :
    ∃ z : Nat → Int, (0 < len → ∃ b o, a = some ⟨b, o, none⟩ ∧ NumsIn k W b o len z ∧ b < W.heap.size) ∧ ∀ j, j < len → (Lit.int k (z j)).wf = true := by
  obtain ⟨fuel, hf⟩ := h
  rcases open_ints ht he hc hf with ⟨hcs, _⟩ | ⟨x, l, c, zs, hcs, _, hl, _, hz, _, hcell, hwz⟩
  · simp [Value.cells] at hcs
    obtain ⟨rfl, rfl, rfl⟩ := hcs
    exact ⟨fun _ => 0, fun h => by omega, fun j hj => by omega⟩
  · simp [Value.cells] at hcs
    obtain ⟨rfl, rfl, rfl⟩ := hcs
    have hzl : zs.length = cap := by simpa using hz
    refine ⟨fun j => zs.getD j 0, fun h => ?_, fun j hj => hwz _ ?_⟩
    · obtain ⟨b, o, rfl, hcc⟩ := ints_at hcell (by omega)
      refine ⟨b, o, rfl, fun j hj => hcc j (by omega), ?_⟩
      have h0 := hcc 0 (by omega)
      rcases Nat.lt_or_ge b W.heap.size with h1 | h1
      · exact h1
      · simp [World.cell?, Array.getElem?_eq_none h1] at h0
    · have hj' : j < zs.length := by omega
      simp [hj']

theorem strs_came {H : Type} {enc : TypeId × Value → H} {W : World} {t e : TypeId} {a : Option Addr} {len cap : Nat} {d : DataW H} {p : List MemPlace} (ht : Tryf.prog.underlying t = some (.slice e)) (he : Tryf.prog.underlying e = some .string)
    (hc : Tryf.prog.cellsOf e = 1) (h : DataW.Trod enc Tryf.prog W 0 (fun _ => true) true t (.slice a len cap) d p) :
    ∃ z : Nat → ByteArray, 0 < len → ∃ b o, a = some ⟨b, o, none⟩ ∧ StrsIn W b o len z ∧ b < W.heap.size := by
  obtain ⟨fuel, hf⟩ := h
  rcases open_strings ht he hc hf with ⟨hcs, _⟩ | ⟨x, l, c, ss, hcs, _, hl, _, hz, _, hcell, _⟩
  · simp [Value.cells] at hcs
    obtain ⟨rfl, rfl, rfl⟩ := hcs
    exact ⟨fun _ => ByteArray.empty, fun h => by omega⟩
  · simp [Value.cells] at hcs
    obtain ⟨rfl, rfl, rfl⟩ := hcs
    have hzl : ss.length = cap := by simpa using hz
    refine ⟨fun j => ss.getD j ByteArray.empty, fun h => ?_⟩
    obtain ⟨b, o, spot⟩ := x
    have hspot : spot = none := by simpa [Addr.add] using World.cell?_spot (hcell 0 (by omega))
    subst hspot
    have hcc : ∀ j, j < ss.length → W.cell? ⟨b, o + j, none⟩ = some (.string (ss.getD j ByteArray.empty)) := fun j hj => by rw [← add_plain]; exact hcell j hj
    refine ⟨b, o, rfl, fun j hj => hcc j (by omega), ?_⟩
    have h0 := hcc 0 (by omega)
    rcases Nat.lt_or_ge b W.heap.size with h1 | h1
    · exact h1
    · simp [World.cell?, Array.getElem?_eq_none h1] at h0

theorem laidOut : laidOutB Tryf.prog = true := by kernel_rfl

/-- The named variable reads behind the call as it read before. -/
theorem vars_again {H : Type} {enc : TypeId × Value → H} {W W' : World} {gs : List (DataW H)} {q : List MemPlace} (h : DataW.TrodVars enc Tryf.prog W (fun _ => true) Rows.fnValidatorIgnoresWhatCameBeforeSpec.vars gs q) (hb : Below W.heap.size W W') :
    ∃ g, gs = [g] ∧ DataW.TrodVars enc Tryf.prog W' (fun b => decide (b < W.heap.size)) Rows.fnValidatorIgnoresWhatCameBeforeSpec.vars [g] q := by
  obtain ⟨g, t, cs, fuel, d, p, rfl, hg, ht, hv, htr, rfl⟩ := trodVars_one h
  obtain rfl := Option.some.inj (glob3.symm.trans hg)
  obtain rfl := Option.some.inj (glob3t.symm.trans ht)
  replace hv : W.var? Tryf.prog resName = some cs := hv
  have h3 : 3 < W.heap.size := by
    rcases Nat.lt_or_ge 3 W.heap.size with h1 | h1
    · exact h1
    · simp [World.var?, glob3, Array.getElem?_eq_none h1] at hv
  have hvar : W'.var? Tryf.prog resName = some cs := by
    rw [← hv]
    simp only [World.var?, glob3, Option.bind_some, hb.block 3 h3]
  have hone : ∃ v : Value, cs = #[v] ∧ v.cells = #[v] := by
    rcases WideElems.open_map Tryf.underlying119 htr with ⟨hcs, _⟩ | ⟨b, _, _, _, _, hcs, _⟩
    · exact ⟨.map none, by cases cs; simp_all, rfl⟩
    · exact ⟨.map (some b), by cases cs; simp_all, rfl⟩
  obtain ⟨v, rfl, hvc⟩ := hone
  have hT : DataW.Trod enc Tryf.prog W 0 (fun _ => true) true 119 v d p := ⟨fuel, by rw [hvc]; exact htr⟩
  have hlt : ∀ x ∈ p, x.block < W.heap.size := DataW.trod_lt fuel _ _ _ htr
  obtain ⟨fuel', hT'⟩ := Below.trod laidOut (by kernel_rfl) (of_decide_eq_true (by kernel_rfl)) hT hb hlt
  rw [hvc] at hT'
  exact ⟨d, rfl, trodVars_mk1 glob3 glob3t hvar hT'⟩

end Go.Proofs.Qxb6616070aFmt
