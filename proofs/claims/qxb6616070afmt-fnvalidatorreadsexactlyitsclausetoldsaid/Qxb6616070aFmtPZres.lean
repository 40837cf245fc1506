/-
  THE LAWS' OWN LIST OF RESERVED WORDS.
-/
import Derived.Test.Qxb6616070aFmtPLaw
import Derived.Test.Qxb6616070aFmtPName
namespace Go.Proofs.Qxb6616070aFmt
open Go.RowKit

theorem res_yes {s l : List UInt8} (h : (s == l) = true) (hl : resWords.contains l = true) : isRes s = true := by
  have e : s = l := by simpa using h
  rw [e]
  exact hl

theorem both {s l : List UInt8} (h : (s == l) = true) (k : (s == l) = false) : False := by
  rw [h] at k
  cases k

theorem res_no {s : List UInt8} (h : ∀ l, l ∈ resWords → (s == l) = false) : isRes s = false := by
  cases hr : isRes s
  · rfl
  · have hm : s ∈ resWords := by simpa [isRes] using hr
    have := h s hm
    simp at this

set_option maxRecDepth 100000 in
set_option maxHeartbeats 8000000 in
theorem zzReserved_c (w : World) (s : ByteArray) :
    Calls Tryf.prog 39 #[.string s] w fun e w' => e = .returned (.bool (isRes s.toList)) ∧ w' = w := by
  go_enter Tryf.func39, Tryf.ntmps39
  go_wp2_with fail
  all_goals go_ret
  all_goals try exact (both (by assumption) (by assumption)).elim
  all_goals refine ⟨?_, rfl⟩
  all_goals first
    | (show Ending.returned (.bool true) = _
       rw [res_yes (by assumption) (by decide +kernel)])
    | (show Ending.returned (.bool false) = _
       rw [res_no (by
         unfold resWords
         simp only [List.mem_cons, List.not_mem_nil, or_false]
         intro l hl
         repeat' (rcases hl with rfl | hl)
         all_goals first
           | assumption
           | (subst hl; assumption))])

end Go.Proofs.Qxb6616070aFmt
