/-
  THE WALKS OF bytes.Compare, byPasskeyID, ITS DOOR, zzCompare AND THE GUARDS ON SIZE.
-/
import Derived.Test.Qxb6616649aCmp
import Derived.WalkLawsBesides
import Derived.Laws.Externs
import Derived.Deep.QuietTactic
import Derived.BigQuiet
namespace Go.Proofs.Qxb6616649a
open Go.RowKit

theorem compare_c (w : World) (a b : Option Addr) (xs ys : List Int) (c d : Nat) (ha : Bs w a xs) (hb : Bs w b ys) :
    Calls Try.prog 11 #[.slice a xs.length c, .slice b ys.length d] w fun e w' => e = .returned (.int .i64 (cmpI xs ys)) ∧ w' = w := by
  go_enter Try.func11, Try.ntmps11
  go_wp2_with fail
  rw [run_callFunc_extern Try.func12 (by kernel_rfl) (by kernel_rfl) (by kernel_rfl) (e := Extern.BytealgCompare.compare) (by kernel_rfl), run_compare ha hb]
  simp only [Result.andThen]
  rw [Oper.upon_value]
  go_wp2
  go_ret
  exact ⟨rfl, rfl⟩

theorem pass_c (w : World) (a b p : Option Addr) (xs ys : List Int) (c d n k : Nat) (s : Int) (t : Bool) (ha : Bs w a xs) (hb : Bs w b ys) :
    Calls Try.prog 10 #[.agg #[.slice a xs.length c, .slice p n k, .int .u32 s, .bool t, .int .u64 0, .int .i64 0, .pointer none, .int .u64 0, .int .i64 0, .pointer none], .slice b ys.length d] w
      fun e w' => e = .returned (.int .i64 (cmpI xs ys)) ∧ Below w.heap.size w w' := by
  go_enter Try.func10, Try.ntmps10
  go_wp2_with fail
  refine (compare_c _ a b xs ys c d (ha.below ((Below.refl _ w).alloc (Nat.le_refl _) _)) (hb.below ((Below.refl _ w).alloc (Nat.le_refl _) _))).mono ?_
  rintro e w1 ⟨rfl, rfl⟩
  go_wp2
  go_ret
  exact ⟨rfl, (Below.refl _ w).alloc (Nat.le_refl _) _⟩

theorem by_c (w : World) (a b p : Option Addr) (xs ys : List Int) (c d n k : Nat) (s : Int) (t : Bool) (ha : Bs w a xs) (hb : Bs w b ys) :
    Calls Try.prog 7 #[.slice a xs.length c, .slice p n k, .int .u32 s, .bool t, .slice b ys.length d] w fun e w' => e = .returned (.int .i64 (cmpI xs ys)) ∧ Below w.heap.size w w' := by
  go_enter Try.func7, Try.ntmps7
  go_wp2_with fail
  refine (pass_c _ a b p xs ys c d n k s t (by exact ha) (by exact hb)).mono ?_
  rintro e w1 ⟨rfl, hb1⟩
  have HB : Hid (Below w.heap.size w w1) := hb1
  clear hb1 ha hb
  go_wp2
  go_ret
  exact ⟨rfl, HB.out⟩

/-- It answers, and turns nothing. -/
def Told (w : World) (e : Ending) (w' : World) : Prop := ∃ b, e = .returned (.bool b) ∧ w' = w

theorem bytes5 (w : World) (a b c : Option Addr) (n1 c1 n2 c2 n3 c3 : Nat) (s : Int) (t : Bool) :
    Calls Try.prog 5 #[.slice a n1 c1, .slice b n2 c2, .int .u32 s, .bool t, .slice c n3 c3] w fun e w' => Told w e w' := by
  go_enter Try.func5, Try.ntmps5
  go_wp2_with fail
  all_goals (go_ret; exact ⟨_, rfl, rfl⟩)

theorem bytes8 (w : World) (a b c d : Option Addr) (n1 c1 n2 c2 n3 c3 n4 c4 : Nat) (s : Int) (t : Bool) :
    Calls Try.prog 8 #[.slice a n1 c1, .slice b n2 c2, .slice c n3 c3, .slice d n4 c4, .int .u32 s, .bool t] w fun e w' => Told w e w' := by
  go_enter Try.func8, Try.ntmps8
  go_wp2_with fail
  all_goals (go_ret; exact ⟨_, rfl, rfl⟩)

set_option maxRecDepth 100000 in
set_option maxHeartbeats 1600000 in
theorem zzcompare_c (w : World) (a b : Option Addr) (xs ys : List Int) (c d : Nat) (ha : Bs w a xs) (hb : Bs w b ys) (l1 : xs.length ≤ 1048576) (l2 : ys.length ≤ 1048576) :
    Calls Try.prog 6 #[.slice a xs.length c, .slice b ys.length d] w fun e w' => e = .returned (.int .i64 (cmpI xs ys)) ∧ Below w.heap.size w w' := by
  obtain ⟨n, hn⟩ : ∃ n, xs.length = n := ⟨_, rfl⟩
  obtain ⟨m, hm⟩ : ∃ m, ys.length = m := ⟨_, rfl⟩
  have hA := ha.cells
  have hB := hb.cells
  have hS : ∀ j, j < n → j < m → cmpI (xs.drop j) (ys.drop j) = if xs.getD j 0 < ys.getD j 0 then -1 else if ys.getD j 0 < xs.getD j 0 then 1 else cmpI (xs.drop (j + 1)) (ys.drop (j + 1)) := fun j h1 h2 => cmp_step xs ys j (by omega) (by omega)
  have hE : ∀ k, k ≤ n → k ≤ m → (n ≤ k ∨ m ≤ k) → cmpI (xs.drop k) (ys.drop k) = if n < m then -1 else if m < n then 1 else 0 := fun k h1 h2 h3 => by
    rw [cmp_end xs ys k (by omega) (by omega) (by omega), hn, hm]
  obtain ⟨R, hR⟩ : ∃ R : Nat → Int, R = fun k => cmpI (xs.drop k) (ys.drop k) := ⟨_, rfl⟩
  have hr : ∀ k, cmpI (xs.drop k) (ys.drop k) = R k := fun k => by rw [hR]
  have h0 : cmpI xs ys = R 0 := by rw [hR]; rfl
  simp only [hr] at hS hE
  rw [h0, hn, hm]
  rw [hn] at hA l1
  rw [hm] at hB l2
  clear hR hr h0 hn hm
  have HS : Hid (∀ j, j < n → j < m → R j = if xs.getD j 0 < ys.getD j 0 then -1 else if ys.getD j 0 < xs.getD j 0 then 1 else R (j + 1)) := hS
  have HE : Hid (∀ k, k ≤ n → k ≤ m → (n ≤ k ∨ m ≤ k) → R k = if n < m then -1 else if m < n then 1 else 0) := hE
  clear hS hE
  by_cases hlt : m < n
  · go_enter Try.func6, Try.ntmps6
    go_wp2_with fail
    go_loopw [6] (fun v wr => ∃ k : Nat, v = .int .i64 k ∧ k ≤ m ∧ Below w.heap.size w wr ∧ Hid (R 0 = R k)) (fun v _ => m - (intOf v).toNat)
    case atStart => exact ⟨0, rfl, by omega, Below.refl _ _, rfl⟩
    case round =>
      obtain ⟨k, rfl, hk, hbw, HR⟩ := hrel
      by_cases hkn : k < m
      · obtain ⟨b1, rfl, hb1, hc1⟩ := hA (by omega)
        obtain ⟨b2, rfl, hb2, hc2⟩ := hB (by omega)
        have g1 := (hbw.cell (p := ⟨b1, k, none⟩) hb1).trans (hc1 k (by omega))
        have g2 := (hbw.cell (p := ⟨b2, k, none⟩) hb2).trans (hc2 k (by omega))
        have hs := HS.out k (by omega) (by omega)
        clear hc1 hc2 hA hB ha hb
        generalize xs.getD k 0 = x at g1 hs
        generalize ys.getD k 0 = y at g2 hs
        have HBW : Hid (Below w.heap.size w wr) := hbw
        clear hbw
        by_cases h1 : x < y
        · rw [if_pos h1] at hs
          have HH : Hid (R 0 = -1) := HR.out.trans hs
          clear hs HR
          go_wp2_with fail
          go_quiet (fail)
          go_wp2
          go_ret
          exact ⟨by rw [HH.out]; rfl, below_drewN HBW.out _⟩
        · rw [if_neg h1] at hs
          by_cases h2 : y < x
          · rw [if_pos h2] at hs
            have HH : Hid (R 0 = 1) := HR.out.trans hs
            clear hs HR
            go_wp2_with fail
            go_quiet (fail)
            go_wp2_with fail
            go_quiet (fail)
            go_wp2
            go_ret
            exact ⟨by rw [HH.out]; rfl, below_drewN (below_drewN HBW.out _) _⟩
          · rw [if_neg h2] at hs
            have HH : Hid (R 0 = R (k + 1)) := HR.out.trans hs
            clear hs HR
            go_wp2_with fail
            go_quiet (fail)
            go_wp2_with fail
            go_quiet (fail)
            go_wp2
            go_roundw
            case rel => exact ⟨k + 1, by simp, hkn, by first | exact below_drewN HBW.out _ | exact below_drewN (below_drewN HBW.out _) _, HH.out⟩
            case measure => simp [intOf]; omega
      · have he := HE.out k (by omega) (by omega) (by omega)
        have HH : Hid (R 0 = if n < m then -1 else if m < n then 1 else 0) := HR.out.trans he
        have HBW : Hid (Below w.heap.size w wr) := hbw
        clear he hbw HR hA hB ha hb
        go_wp2_with fail
        all_goals (go_ret; exact ⟨by rw [HH.out]; simp [*], HBW.out⟩)
  · go_enter Try.func6, Try.ntmps6
    go_wp2_with fail
    go_loopw [6] (fun v wr => ∃ k : Nat, v = .int .i64 k ∧ k ≤ n ∧ Below w.heap.size w wr ∧ Hid (R 0 = R k)) (fun v _ => n - (intOf v).toNat)
    case atStart => exact ⟨0, rfl, by omega, Below.refl _ _, rfl⟩
    case round =>
      obtain ⟨k, rfl, hk, hbw, HR⟩ := hrel
      by_cases hkn : k < n
      · obtain ⟨b1, rfl, hb1, hc1⟩ := hA (by omega)
        obtain ⟨b2, rfl, hb2, hc2⟩ := hB (by omega)
        have g1 := (hbw.cell (p := ⟨b1, k, none⟩) hb1).trans (hc1 k (by omega))
        have g2 := (hbw.cell (p := ⟨b2, k, none⟩) hb2).trans (hc2 k (by omega))
        have hs := HS.out k (by omega) (by omega)
        clear hc1 hc2 hA hB ha hb
        generalize xs.getD k 0 = x at g1 hs
        generalize ys.getD k 0 = y at g2 hs
        have HBW : Hid (Below w.heap.size w wr) := hbw
        clear hbw
        by_cases h1 : x < y
        · rw [if_pos h1] at hs
          have HH : Hid (R 0 = -1) := HR.out.trans hs
          clear hs HR
          go_wp2_with fail
          go_quiet (fail)
          go_wp2
          go_ret
          exact ⟨by rw [HH.out]; rfl, below_drewN HBW.out _⟩
        · rw [if_neg h1] at hs
          by_cases h2 : y < x
          · rw [if_pos h2] at hs
            have HH : Hid (R 0 = 1) := HR.out.trans hs
            clear hs HR
            go_wp2_with fail
            go_quiet (fail)
            go_wp2_with fail
            go_quiet (fail)
            go_wp2
            go_ret
            exact ⟨by rw [HH.out]; rfl, below_drewN (below_drewN HBW.out _) _⟩
          · rw [if_neg h2] at hs
            have HH : Hid (R 0 = R (k + 1)) := HR.out.trans hs
            clear hs HR
            go_wp2_with fail
            go_quiet (fail)
            go_wp2_with fail
            go_quiet (fail)
            go_wp2
            go_roundw
            case rel => exact ⟨k + 1, by simp, hkn, by first | exact below_drewN HBW.out _ | exact below_drewN (below_drewN HBW.out _) _, HH.out⟩
            case measure => simp [intOf]; omega
      · have he := HE.out k (by omega) (by omega) (by omega)
        have HH : Hid (R 0 = if n < m then -1 else if m < n then 1 else 0) := HR.out.trans he
        have HBW : Hid (Below w.heap.size w wr) := hbw
        clear he hbw HR hA hB ha hb
        go_wp2_with fail
        all_goals (go_ret; exact ⟨by rw [HH.out]; simp [*], HBW.out⟩)

end Go.Proofs.Qxb6616649a
