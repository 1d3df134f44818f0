/-
  THE WALKS of zzNormalized and of the two bounds on lengths.
-/
import Derived.Test.Qxb6613004aRows
import Derived.WalkKit
import Derived.WalkSpells
import Derived.WalkLawsBesides
import Derived.Deep.QuietTactic
import Derived.BigQuiet
namespace Go.Proofs.Qxb6613004a
open Go.RowKit

/-- The k-th pair is as a normalized set has it. -/
def NormAt (L H : Nat → Int) (k : Nat) : Prop := 0 ≤ L k ∧ L k ≤ H k ∧ H k ≤ 1114111 ∧ (0 < k → H (k - 1) + 1 < L k)

set_option maxHeartbeats 400000 in
theorem norm_nil (a0 a1 : Option Addr) (c0 c1 : Nat) (w : World) :
    Calls Try.prog 19 #[.slice a0 0 c0, .slice a1 0 c1] w fun e w' => e = .returned (.bool true) ∧ w' = w := by
  go_enter Try.func19, Try.ntmps19
  go_wp2
  refine wp_loop_rounds 1 ?_
  rw [rounds_succ]
  go_wp2
  go_ret
  exact ⟨rfl, rfl⟩

set_option maxHeartbeats 1000000 in
theorem norm_any (b0 o0 b1 o1 n c0 c1 : Nat) (L H : Nat → Int) (hn : n ≤ 65536) (w : World)
    (hc0 : ∀ k, k < n → w.cell? ⟨b0, o0 + k, none⟩ = some (.int .i32 (L k))) (hc1 : ∀ k, k < n → w.cell? ⟨b1, o1 + k, none⟩ = some (.int .i32 (H k)))
    (hb0 : b0 < w.heap.size) (hb1 : b1 < w.heap.size) :
    Calls Try.prog 19 #[.slice (some ⟨b0, o0, none⟩) n c0, .slice (some ⟨b1, o1, none⟩) n c1] w fun e w' => (∃ b, e = .returned (.bool b) ∧ (b = true → ∀ k, k < n → NormAt L H k)) ∧ Below w.heap.size w w' := by
  have HC0 : Hid (∀ k, k < n → w.cell? ⟨b0, o0 + k, none⟩ = some (.int .i32 (L k))) := hc0
  have HC1 : Hid (∀ k, k < n → w.cell? ⟨b1, o1 + k, none⟩ = some (.int .i32 (H k))) := hc1
  clear hc0 hc1
  go_enter Try.func19, Try.ntmps19
  go_wp2
  go_loopw [5] (fun v wr => ∃ k : Nat, k ≤ n ∧ v = .int .i64 k ∧ Hid (Below w.heap.size w wr) ∧ Hid (∀ j, j < k → NormAt L H j)) (fun v _ => n - (intOf v).toNat)
  case atStart => exact ⟨0, Nat.zero_le _, rfl, Below.refl _ _, fun j h => absurd h (Nat.not_lt_zero _)⟩
  case round =>
    obtain ⟨k, hk, rfl, HB, HN⟩ := hrel
    by_cases hlt : k < n
    · obtain ⟨x, hx⟩ : ∃ x, L k = x := ⟨_, rfl⟩
      obtain ⟨y, hy⟩ : ∃ y, H k = y := ⟨_, rfl⟩
      have gx : wr.cell? ⟨b0, o0 + k, none⟩ = some (.int .i32 x) := by rw [← hx]; exact (HB.out.cell (p := ⟨b0, o0 + k, none⟩) hb0).trans (HC0.out k hlt)
      have gy : wr.cell? ⟨b1, o1 + k, none⟩ = some (.int .i32 y) := by rw [← hy]; exact (HB.out.cell (p := ⟨b1, o1 + k, none⟩) hb1).trans (HC1.out k hlt)
      have HX : Hid (L k = x) := hx
      have HY : Hid (H k = y) := hy
      clear hx hy
      have hltI : (k : Int) < (n : Int) := by omega
      by_cases a1 : x < 0
      · have d1 : decide (x < 0) = true := decide_eq_true a1
        go_wp2_with fail
        go_quiet (fail)
        go_wp2
        go_ret
        exact ⟨⟨_, rfl, fun h => absurd h (by decide)⟩, below_drewN HB.out _⟩
      have d1 : decide (x < 0) = false := decide_eq_false a1
      by_cases a2 : y < x
      · have d2 : decide (y < x) = true := decide_eq_true a2
        go_wp2_with fail
        go_quiet (fail)
        go_wp2
        go_ret
        exact ⟨⟨_, rfl, fun h => absurd h (by decide)⟩, below_drewN HB.out _⟩
      have d2 : decide (y < x) = false := decide_eq_false a2
      by_cases a3 : 1114111 < y
      · have d3 : decide (1114111 < y) = true := decide_eq_true a3
        go_wp2_with fail
        go_quiet (fail)
        go_wp2
        go_ret
        exact ⟨⟨_, rfl, fun h => absurd h (by decide)⟩, below_drewN HB.out _⟩
      have d3 : decide (1114111 < y) = false := decide_eq_false a3
      by_cases a4 : k = 0
      · have d4 : decide ((0 : Int) < (k : Int)) = false := decide_eq_false (by omega)
        have d4' : decide (0 < k) = false := decide_eq_false (by omega)
        have H2 : Hid (∀ j, j < k + 1 → NormAt L H j) := by
          intro j hj
          obtain rfl : j = k := by omega
          refine ⟨?_, ?_, ?_, fun h => absurd h (by omega)⟩
          · rw [HX.out]; omega
          · rw [HX.out, HY.out]; omega
          · rw [HY.out]; omega
        have hk0 : k ≤ 0 := by omega
        clear a4
        go_wp2_with fail
        go_quiet (fail)
        go_wp2
        go_quiet (fail)
        go_wp2
        go_roundw
        case rel => exact ⟨k + 1, by omega, by go_num, below_drewN HB.out _, H2⟩
        case measure => simp [intOf]; omega
      have d4 : decide ((0 : Int) < (k : Int)) = true := decide_eq_true (by omega)
      have d4' : decide (0 < k) = true := decide_eq_true (by omega)
      obtain ⟨p, hp⟩ : ∃ p, H (k - 1) = p := ⟨_, rfl⟩
      have gp : wr.cell? ⟨b1, o1 + (k - 1), none⟩ = some (.int .i32 p) := by rw [← hp]; exact (HB.out.cell (p := ⟨b1, o1 + (k - 1), none⟩) hb1).trans (HC1.out (k - 1) (by omega))
      have HP : Hid (H (k - 1) = p) := hp
      have np := (HN.out (k - 1) (by omega))
      have p0 : 0 ≤ p := by rw [← hp]; have := np.1; have := np.2.1; omega
      have p1 : p ≤ 1114111 := by rw [← hp]; exact np.2.2.1
      have hk1 : 1 ≤ k := by omega
      have hk1I : (1 : Int) ≤ (k : Int) := by omega
      have hk2I : (k : Int) - 1 < (n : Int) := by omega
      clear hp np a4
      by_cases a5 : x ≤ p + 1
      · have d5 : decide (x ≤ p + 1) = true := decide_eq_true a5
        go_wp2_with fail
        go_quiet (fail)
        go_wp2
        go_quiet (fail)
        go_wp2
        go_ret
        exact ⟨⟨_, rfl, fun h => absurd h (by decide)⟩, below_drewN (below_drewN HB.out _) _⟩
      · have d5 : decide (x ≤ p + 1) = false := decide_eq_false a5
        have H2 : Hid (∀ j, j < k + 1 → NormAt L H j) := by
          intro j hj
          by_cases e : j = k
          · subst e
            refine ⟨?_, ?_, ?_, fun _ => ?_⟩
            · rw [HX.out]; omega
            · rw [HX.out, HY.out]; omega
            · rw [HY.out]; omega
            · rw [HX.out, HP.out]; omega
          · exact HN.out j (by omega)
        go_wp2_with fail
        go_quiet (fail)
        go_wp2
        go_quiet (fail)
        go_wp2
        go_roundw
        case rel => exact ⟨k + 1, by omega, by go_num, below_drewN HB.out _, H2⟩
        case measure => simp [intOf]; omega
    · go_wp2
      go_ret
      exact ⟨⟨_, rfl, fun _ j hj => HN.out j (by omega)⟩, HB.out⟩
end Go.Proofs.Qxb6613004a
