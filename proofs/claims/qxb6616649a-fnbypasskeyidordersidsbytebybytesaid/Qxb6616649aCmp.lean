/-
  BYTES IN A SLICE; THE ORDER OF TWO LISTS OF BYTES, PLAINLY.
-/
import Derived.Test.Qxb6616649aRows
import Derived.WalkKit
import Derived.ProofKit
import Derived.Below
import Derived.Lib.BytesEntry
namespace Go.Proofs.Qxb6616649a
open Go.RowKit

/-- The order of two lists. -/
def cmpI : List Int → List Int → Int
  | [], [] => 0
  | [], _ :: _ => -1
  | _ :: _, [] => 1
  | x :: xs, y :: ys => if x < y then -1 else if y < x then 1 else cmpI xs ys

theorem cmpI_swap : ∀ (xs ys : List Int), cmpI ys xs = -cmpI xs ys
  | [], [] => rfl
  | [], _ :: _ => rfl
  | _ :: _, [] => rfl
  | x :: xs, y :: ys => by
    unfold cmpI
    rw [cmpI_swap xs ys]
    by_cases h1 : x < y
    · have h2 : ¬ y < x := by omega
      rw [if_pos h1, if_neg h2, if_pos h1]
      rfl
    · by_cases h2 : y < x
      · rw [if_pos h2, if_neg h1, if_pos h2]
      · rw [if_neg h1, if_neg h2, if_neg h2, if_neg h1]

theorem cmpI_front : ∀ (ps xs ys : List Int), cmpI (ps ++ xs) (ps ++ ys) = cmpI xs ys
  | [], _, _ => rfl
  | p :: ps, xs, ys => by
    rw [List.cons_append, List.cons_append, cmpI, if_neg (by omega), if_neg (by omega)]
    exact cmpI_front ps xs ys

theorem cmpI_short (ps ys : List Int) : cmpI ps (ps ++ ys) = if 0 < ys.length then -1 else 0 := by
  have h := cmpI_front ps [] ys
  rw [List.append_nil] at h
  rw [h]
  cases ys <;> simp [cmpI]

theorem cmpI_bound : ∀ (xs ys : List Int), cmpI xs ys = -1 ∨ cmpI xs ys = 0 ∨ cmpI xs ys = 1
  | [], [] => .inr (.inl rfl)
  | [], _ :: _ => .inl rfl
  | _ :: _, [] => .inr (.inr rfl)
  | x :: xs, y :: ys => by
    unfold cmpI
    split
    · exact .inl rfl
    · split
      · exact .inr (.inr rfl)
      · exact cmpI_bound xs ys

theorem drop_cons {xs : List Int} {k : Nat} (h : k < xs.length) : xs.drop k = xs.getD k 0 :: xs.drop (k + 1) := by
  rw [List.drop_eq_getElem_cons h]
  congr 1
  simp [List.getD_eq_getElem?_getD, List.getElem?_eq_getElem h]

theorem cmp_step (xs ys : List Int) (k : Nat) (h1 : k < xs.length) (h2 : k < ys.length) :
    cmpI (xs.drop k) (ys.drop k) = if xs.getD k 0 < ys.getD k 0 then -1 else if ys.getD k 0 < xs.getD k 0 then 1 else cmpI (xs.drop (k + 1)) (ys.drop (k + 1)) := by
  rw [drop_cons h1, drop_cons h2, cmpI]

theorem cmp_end (xs ys : List Int) (k : Nat) (h1 : k ≤ xs.length) (h2 : k ≤ ys.length) (h : xs.length ≤ k ∨ ys.length ≤ k) :
    cmpI (xs.drop k) (ys.drop k) = if xs.length < ys.length then -1 else if ys.length < xs.length then 1 else 0 := by
  by_cases hx : k < xs.length
  · have hy : ys.length ≤ k := by omega
    rw [drop_cons hx, List.drop_eq_nil_of_le hy, if_neg (by omega), if_pos (by omega)]
    rfl
  · rw [List.drop_eq_nil_of_le (by omega)]
    by_cases hy : k < ys.length
    · rw [drop_cons hy, if_pos (by omega)]
      rfl
    · rw [List.drop_eq_nil_of_le (by omega), if_neg (by omega), if_neg (by omega)]
      rfl

/-- Each number is a byte's. -/
def Small (xs : List Int) : Prop := ∀ z, z ∈ xs → 0 ≤ z ∧ z ≤ 255

theorem Small.append {xs ys : List Int} (h : Small xs) (k : Small ys) : Small (xs ++ ys) := fun z hz => by
  rcases List.mem_append.1 hz with h1 | h1
  · exact h z h1
  · exact k z h1

theorem Small.at {xs : List Int} (h : Small xs) (j : Nat) : 0 ≤ xs.getD j 0 ∧ xs.getD j 0 ≤ 255 := by
  by_cases hj : j < xs.length
  · rw [List.getD_eq_getElem?_getD, List.getElem?_eq_getElem hj]
    exact h _ (List.getElem_mem hj)
  · rw [List.getD_eq_getElem?_getD, List.getElem?_eq_none (by omega)]
    exact ⟨Int.le_refl _, by decide⟩

theorem byte_lt (x y : Int) (hx : 0 ≤ x ∧ x ≤ 255) (hy : 0 ≤ y ∧ y ≤ 255) : (UInt8.ofNat x.toNat < UInt8.ofNat y.toNat) ↔ x < y := by
  rw [UInt8.lt_iff_toNat_lt, UInt8.toNat_ofNat', UInt8.toNat_ofNat']
  omega

theorem cmp_bytes : ∀ (xs ys : List Int), Small xs → Small ys → Lib.compareBytes (Lib.bytesOf xs) (Lib.bytesOf ys) = cmpI xs ys
  | [], [], _, _ => rfl
  | [], _ :: _, _, _ => rfl
  | _ :: _, [], _, _ => rfl
  | x :: xs, y :: ys, hx, hy => by
    have ih := cmp_bytes xs ys (fun z hz => hx z (List.mem_cons_of_mem _ hz)) (fun z hz => hy z (List.mem_cons_of_mem _ hz))
    have b1 := byte_lt x y (hx x (List.mem_cons_self ..)) (hy y (List.mem_cons_self ..))
    have b2 := byte_lt y x (hy y (List.mem_cons_self ..)) (hx x (List.mem_cons_self ..))
    show Lib.compareBytes (UInt8.ofNat x.toNat :: Lib.bytesOf xs) (UInt8.ofNat y.toNat :: Lib.bytesOf ys) = _
    unfold Lib.compareBytes cmpI
    rw [ih]
    simp only [b1, b2]

/-- A slice that holds these bytes. -/
structure Bs (w : World) (a : Option Addr) (xs : List Int) : Prop where
  small : Small xs
  cells : 0 < xs.length → ∃ b, a = some ⟨b, 0, none⟩ ∧ b < w.heap.size ∧ ∀ j, j < xs.length → w.cell? ⟨b, j, none⟩ = some (.int .u8 (xs.getD j 0))

theorem Bs.below {w w' : World} {a : Option Addr} {xs : List Int} (h : Bs w a xs) (hb : Below w.heap.size w w') : Bs w' a xs :=
  ⟨h.small, fun h0 => by
    obtain ⟨b, e, hlt, hc⟩ := h.cells h0
    exact ⟨b, e, Nat.lt_of_lt_of_le hlt hb.size, fun j hj => (hb.cell (p := ⟨b, j, none⟩) hlt).trans (hc j hj)⟩⟩

theorem Bs.none (w : World) : Bs w none [] := ⟨fun _ h => by simp at h, fun h => by simp at h⟩

/-- What the model's entry reads off such a slice. -/
theorem Bs.read {P : Program} {w : World} {a : Option Addr} {xs : List Int} (h : Bs w a xs) (cap : Nat) :
    (Extern.Bytes.bytesOf (.slice a xs.length cap)).run P w = .ok ⟨(Lib.bytesOf xs).toArray⟩ w := by
  by_cases h0 : 0 < xs.length
  · obtain ⟨b, rfl, _, hc⟩ := h.cells h0
    have hl := Lib.run_loadBytesX (P := P) w xs ⟨b, 0, Option.none⟩ .empty (fun j x hj => by
      have hjl : j < xs.length := (List.getElem?_eq_some_iff.1 hj).1
      have e : (⟨b, 0, Option.none⟩ : Addr).add j = ⟨b, j, Option.none⟩ := by unfold Addr.add; split <;> simp_all
      rw [e, hc j hjl, List.getD_eq_getElem?_getD, hj]
      rfl)
    have he : (⟨ByteArray.empty.data ++ (Lib.bytesOf xs).toArray⟩ : ByteArray) = ⟨(Lib.bytesOf xs).toArray⟩ := by
      apply ByteArray.ext
      show (#[] : Array UInt8) ++ (Lib.bytesOf xs).toArray = (Lib.bytesOf xs).toArray
      simp
    rw [he] at hl
    exact hl
  · obtain rfl : xs = [] := List.eq_nil_of_length_eq_zero (by omega)
    cases a <;> rfl

/-- The model's entry for bytealg.Compare. -/
theorem run_compare {P : Program} {w : World} {a b : Option Addr} {xs ys : List Int} (h : Bs w a xs) (k : Bs w b ys) (c d : Nat) :
    (Extern.BytealgCompare.compare #[.slice a xs.length c, .slice b ys.length d]).run P w = .ok (.int .i64 (cmpI xs ys)) w := by
  change Sem.run P (do pure (goInt (Extern.BytealgCompare.cmp (← Extern.Bytes.bytesOf (.slice a xs.length c)) (← Extern.Bytes.bytesOf (.slice b ys.length d))))) w = _
  simp only [Sem.run_bind, Sem.run_pure, Result.andThen, h.read, k.read]
  rw [Lib.cmp_eq, ← cmp_bytes xs ys h.small k.small]
  rfl

end Go.Proofs.Qxb6616649a
