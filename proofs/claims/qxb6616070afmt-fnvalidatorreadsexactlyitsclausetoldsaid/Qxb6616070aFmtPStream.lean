/-
  zzStreamOK: what it says of the stream where it says yes.
-/
import Derived.Test.Qxb6616070aFmtPGuard
import Derived.Deep.QuietTactic
import Derived.BigQuiet
namespace Go.Proofs.Qxb6616070aFmt
open Go.RowKit

structure StreamOK (src : ByteArray) (n : Nat) (K P E : Nat → Int) (i : Int) : Prop where
  last : K (n - 1) = 0
  kinds : ∀ j, j + 1 < n → K j ≠ 0 ∧ K j ≤ 8
  span : ∀ j, j < n → 0 ≤ P j ∧ P j ≤ E j ∧ E j ≤ src.size
  lo : 0 ≤ i
  hi : i < n

set_option maxRecDepth 100000 in
set_option maxHeartbeats 1600000 in
theorem streamOK_bad (w : World) (src : ByteArray) (ka xa qa ea : Option Addr) (kn kc xn xc qn qc en ec : Nat) (i : Int) (hb : ¬ (0 < kn ∧ xn = kn ∧ qn = kn ∧ en = kn)) :
    Calls Tryf.prog 9 #[.string src, .slice ka kn kc, .slice xa xn xc, .slice qa qn qc, .slice ea en ec, .int .i64 i] w
      fun e w' => e = .returned (.bool false) ∧ w' = w := by
  by_cases h1 : kn = 0
  · subst h1
    go_enter Tryf.func9, Tryf.ntmps9
    go_wp2_with fail
    go_ret
    exact ⟨rfl, rfl⟩
  · have d1 : ((kn : Int) == 0) = false := by simpa using h1
    by_cases h2 : xn = kn
    · subst h2
      by_cases h3 : qn = xn
      · subst h3
        have h4 : en ≠ qn := fun e => hb ⟨by omega, rfl, rfl, e⟩
        have d4 : ((en : Int) != (qn : Int)) = true := by simp; omega
        go_enter Tryf.func9, Tryf.ntmps9
        go_wp2_with fail
        go_ret
        exact ⟨rfl, rfl⟩
      · have d3 : ((qn : Int) != (xn : Int)) = true := by simp; omega
        go_enter Tryf.func9, Tryf.ntmps9
        go_wp2_with fail
        go_ret
        exact ⟨rfl, rfl⟩
    · have d2 : ((xn : Int) != (kn : Int)) = true := by simp; omega
      go_enter Tryf.func9, Tryf.ntmps9
      go_wp2_with fail
      go_ret
      exact ⟨rfl, rfl⟩

set_option maxRecDepth 100000 in
set_option maxHeartbeats 3200000 in
theorem streamOK_run (w : World) (src : ByteArray) (kb ko kc xb xo xc qb qo qc eb eo ec n : Nat) (K : Nat → Int) (P E : Nat → Int) (i : Int) (hn : 0 < n) (hn1 : n ≤ 1048576)
    (hk : NumsIn .u8 w kb ko n K) (hq : NumsIn .i64 w qb qo n P) (he : NumsIn .i64 w eb eo n E) (bk : kb < w.heap.size) (bq : qb < w.heap.size) (be : eb < w.heap.size) :
    Calls Tryf.prog 9 #[.string src, .slice (some ⟨kb, ko, none⟩) n kc, .slice (some ⟨xb, xo, none⟩) n xc, .slice (some ⟨qb, qo, none⟩) n qc, .slice (some ⟨eb, eo, none⟩) n ec, .int .i64 i] w
      fun e w' => Answered w (StreamOK src n K P E i) e w' := by
  have d1 : ((n : Int) == 0) = false := by simp; omega
  have kl := hk (n - 1) (by omega)
  by_cases hl : K (n - 1) = 0
  · have dl : (K (n - 1) != 0) = false := by simpa using hl
    have HL : Hid (K (n - 1) = 0) := hl
    clear hl
    go_enter Tryf.func9, Tryf.ntmps9
    go_wp2_with fail
    go_loopw [14] (fun v wr => ∃ k : Nat, v = .int .i64 k ∧ k ≤ n ∧ Below w.heap.size w wr ∧ Hid (∀ j, j < k → (j + 1 < n → K j ≠ 0 ∧ K j ≤ 8) ∧ 0 ≤ P j ∧ P j ≤ E j ∧ E j ≤ src.size)) (fun v _ => n - (intOf v).toNat)
    case atStart => exact ⟨0, rfl, by omega, Below.refl _ _, fun j hj => by omega⟩
    case round =>
      obtain ⟨k, rfl, hkn, hb, HS⟩ := hrel
      by_cases hlt : k < n
      · have k0 := (hk.below hb bk) k hlt
        have k2 := (hq.below hb bq) k hlt
        have k3 := (he.below hb be) k hlt
        have HB : Hid (Below w.heap.size w wr) := hb
        clear hk hq he hb kl
        by_cases hkk : k + 1 < n ∧ (K k = 0 ∨ 8 < K k)
        · obtain ⟨hk1, hk2⟩ := hkk
          by_cases hz : K k = 0
          · have dz : (K k == 0) = true := by simpa using hz
            clear hk2 hz
            go_wp2_with fail
            go_ret
            exact .no HB.out
          · have dz : (K k == 0) = false := by simpa using hz
            have h8 : 8 < K k := by omega
            clear hk2 hz
            go_wp2_with fail
            go_ret
            exact .no HB.out
        · have hgo : (k + 1 < n ∧ (K k == 0) = false ∧ ¬ 8 < K k) ∨ ¬ (k + 1 < n) := by
            by_cases h1 : k + 1 < n
            · left
              refine ⟨h1, ?_, ?_⟩
              · simp; omega
              · omega
            · exact .inr h1
          have HK : Hid (k + 1 < n → K k ≠ 0 ∧ K k ≤ 8) := fun h1 => by omega
          clear hkk
          have kp : (P k < 0) ∨ (decide (P k < 0) = false ∧ E k < P k) ∨ (decide (P k < 0) = false ∧ decide (E k < P k) = false ∧ (src.size : Int) < E k) ∨ (decide (P k < 0) = false ∧ decide (E k < P k) = false ∧ decide ((src.size : Int) < E k) = false) := by
            simp only [decide_eq_false_iff_not]
            omega
          have HS2 : Hid (P k < 0 ∨ E k < P k ∨ (src.size : Int) < E k ∨ ∀ j, j < k + 1 → (j + 1 < n → K j ≠ 0 ∧ K j ≤ 8) ∧ 0 ≤ P j ∧ P j ≤ E j ∧ E j ≤ src.size) := by
            by_cases a1 : P k < 0
            · exact .inl a1
            · by_cases a2 : E k < P k
              · exact .inr (.inl a2)
              · by_cases a3 : (src.size : Int) < E k
                · exact .inr (.inr (.inl a3))
                · refine .inr (.inr (.inr (fun j hj => ?_)))
                  by_cases e : j = k
                  · subst e
                    exact ⟨HK.out, by omega, by omega, by omega⟩
                  · exact HS.out j (by omega)
          clear HK HS
          rcases hgo with ⟨g1, g2, g3⟩ | g1
          · rcases kp with p1 | ⟨p1, p2⟩ | ⟨p1, p2, p3⟩ | ⟨p1, p2, p3⟩
            · go_wp2_with fail
              go_quiet (fail)
              go_wp2
              go_ret
              exact .no (below_drewN HB.out _)
            · go_wp2_with fail
              go_quiet (fail)
              go_wp2
              go_ret
              exact .no (below_drewN HB.out _)
            · go_wp2_with fail
              go_quiet (fail)
              go_wp2
              go_ret
              exact .no (below_drewN HB.out _)
            · have HP : Hid (¬ P k < 0 ∧ ¬ E k < P k ∧ ¬ (src.size : Int) < E k) := by
                simp only [decide_eq_false_iff_not] at p1 p2 p3
                exact ⟨p1, p2, p3⟩
              go_wp2_with fail
              go_quiet (fail)
              go_wp2
              go_roundw
              case rel =>
                refine ⟨k + 1, by simp, hlt, below_drewN HB.out _, ?_⟩
                obtain ⟨q1, q2, q3⟩ := HP.out
                rcases HS2.out with h | h | h | h
                · exfalso; omega
                · exfalso; omega
                · exfalso; omega
                · exact h
              case measure => simp [intOf]; omega
          · rcases kp with p1 | ⟨p1, p2⟩ | ⟨p1, p2, p3⟩ | ⟨p1, p2, p3⟩
            · go_wp2_with fail
              go_quiet (fail)
              go_wp2
              go_ret
              exact .no (below_drewN HB.out _)
            · go_wp2_with fail
              go_quiet (fail)
              go_wp2
              go_ret
              exact .no (below_drewN HB.out _)
            · go_wp2_with fail
              go_quiet (fail)
              go_wp2
              go_ret
              exact .no (below_drewN HB.out _)
            · have HP : Hid (¬ P k < 0 ∧ ¬ E k < P k ∧ ¬ (src.size : Int) < E k) := by
                simp only [decide_eq_false_iff_not] at p1 p2 p3
                exact ⟨p1, p2, p3⟩
              go_wp2_with fail
              go_quiet (fail)
              go_wp2
              go_roundw
              case rel =>
                refine ⟨k + 1, by simp, hlt, below_drewN HB.out _, ?_⟩
                obtain ⟨q1, q2, q3⟩ := HP.out
                rcases HS2.out with h | h | h | h
                · exfalso; omega
                · exfalso; omega
                · exfalso; omega
                · exact h
              case measure => simp [intOf]; omega
      · have hkn' : k = n := by omega
        have HB : Hid (Below w.heap.size w wr) := hb
        clear hk hq he hb kl
        have HK : Hid (∀ j, j + 1 < n → K j ≠ 0 ∧ K j ≤ 8) := fun j hj => (HS.out j (by omega)).1 hj
        have HP : Hid (∀ j, j < n → 0 ≤ P j ∧ P j ≤ E j ∧ E j ≤ src.size) := fun j hj => (HS.out j (by omega)).2
        clear HS
        by_cases i0 : 0 ≤ i
        · by_cases i1 : i < n
          · go_wp2_with fail
            go_ret
            have hyes : StreamOK src n K P E i := ⟨HL.out, HK.out, HP.out, i0, i1⟩
            first | exact .yes HB.out hyes | (refine ⟨_, rfl, HB.out, fun _ => hyes⟩)
          · go_wp2_with fail
            go_ret
            first | exact .no HB.out | (refine ⟨_, rfl, HB.out, fun h => ?_⟩; simp at h; omega)
        · go_wp2_with fail
          go_ret
          first | exact .no HB.out | (refine ⟨_, rfl, HB.out, fun h => ?_⟩; simp at h; omega)
  · have dl : (K (n - 1) != 0) = true := by simpa using hl
    clear hk hq he
    go_enter Tryf.func9, Tryf.ntmps9
    go_wp2_with fail
    go_ret
    exact .no (Below.refl _ _)

end Go.Proofs.Qxb6616070aFmt
