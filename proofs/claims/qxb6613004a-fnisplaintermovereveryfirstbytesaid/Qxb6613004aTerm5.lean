/-
  THE WALK of FnIsPlainTermCutAndExact.
-/
import Derived.Test.Qxb6613004aPlain
namespace Go.Proofs.Qxb6613004a
open Go.RowKit

theorem atB_extract (s : ByteArray) (i j : Nat) (hj : j < i) (hi : i ≤ s.size) : atB (s.extract 0 i) j = atB s j := by
  have h1 : j < s.size := by omega
  have h2 : j < (s.extract 0 i).size := by simp; omega
  unfold atB
  rw [dif_pos h1, dif_pos h2]
  simp [ByteArray.getElem_extract]

theorem atB_past (s : ByteArray) (i j : Nat) (hj : i ≤ j) : atB (s.extract 0 i) j = -1 := by
  have h2 : ¬ j < (s.extract 0 i).size := by simp; omega
  unfold atB
  rw [dif_neg h2]

theorem term_first (s : ByteArray) (hp : 0 < s.size) : termB (s.extract 0 1) = (decide (atB s 0 < 128) && (atB s 0 != 92)) := by
  unfold termB
  rw [atB_extract s 1 0 (by omega) (by omega), atB_past s 1 1 (Nat.le_refl _)]
  unfold plainB
  by_cases h : atB s 0 = 91
  · rw [if_pos h, h]; decide
  · rw [if_neg h]

theorem term_cut (s : ByteArray) (i : Nat) (h2 : 2 ≤ i) (hi : i ≤ s.size) : termB (s.extract 0 i) = termB s := by
  unfold termB
  rw [atB_extract s i 0 (by omega) hi, atB_extract s i 1 (by omega) hi]

theorem term_whole (s : ByteArray) : termB s = ((decide (atB s 0 < 128) && (atB s 0 != 92)) && !openB s) := by
  unfold termB plainB openB
  by_cases h : atB s 0 = 91
  · rw [if_pos h, h]
    by_cases k : 1 < s.size
    · have : ¬ atB s 1 < 0 := by
        unfold atB; rw [dif_pos k]; omega
      simp [this, k]
    · have : atB s 1 = -1 := by unfold atB; rw [dif_neg k]
      rw [this]
      simp [k]
  · rw [if_neg h]
    simp [h]

set_option maxHeartbeats 400000 in
theorem zb13_yes (s : ByteArray) (hs : s.size ≤ 1048576) (i : Int) (w : World) :
    Calls Try.prog 13 #[.string s, .int .i64 i] w fun e w' => e = .returned (.bool true) ∧ w' = w := by
  go_enter Try.func13, Try.ntmps13
  go_wp2
  go_ret
  exact ⟨rfl, rfl⟩
set_option maxHeartbeats 400000 in
theorem zb13_no (s : ByteArray) (hs : 1048576 < s.size) (i : Int) (w : World) :
    Calls Try.prog 13 #[.string s, .int .i64 i] w fun e w' => e = .returned (.bool false) ∧ w' = w := by
  go_enter Try.func13, Try.ntmps13
  go_wp2
  go_ret
  exact ⟨rfl, rfl⟩

set_option maxHeartbeats 400000 in
theorem law5_long (s : ByteArray) (hs : 1048576 < s.size) (i : Int) (w : World) :
    Calls Try.prog 5 #[.string s, .int .i64 i] w fun e w' => e = .returned (.bool true) ∧ Grown w w' := by
  go_enter Try.func5, Try.ntmps5
  go_wp2_with fail
  refine (zb13_no s hs _ _).mono ?_
  rintro e w1 ⟨rfl, rfl⟩
  go_wp2
  go_ret
  exact ⟨rfl, Grown.refl _⟩

set_option maxHeartbeats 400000 in
theorem law5_edge (s : ByteArray) (hs : s.size ≤ 1048576) (i : Int) (h : 65536 < s.size ∨ (s.size ≤ 65536 ∧ s.size ≤ 0) ∨ (s.size ≤ 65536 ∧ 1 ≤ s.size ∧ i < 1) ∨ (s.size ≤ 65536 ∧ 1 ≤ s.size ∧ 1 ≤ i ∧ (s.size : Int) < i)) (w : World) :
    Calls Try.prog 5 #[.string s, .int .i64 i] w fun e w' => e = .returned (.bool true) ∧ Grown w w' := by
  rcases h with h | ⟨h, h2⟩ | ⟨h, h2, h3⟩ | ⟨h, h2, h3, h4⟩
  all_goals
    go_enter Try.func5, Try.ntmps5
    go_wp2_with fail
    refine (zb13_yes s hs _ _).mono ?_
    rintro e w1 ⟨rfl, rfl⟩
    go_wp2
    go_ret
    exact ⟨rfl, Grown.refl _⟩

theorem grown_drewN {W w' : World} (h : Grown W w') (n : Nat) : Grown W (w'.drewN n) := h

set_option maxHeartbeats 1000000 in
theorem law5_core (s : ByteArray) (hs : s.size ≤ 65536) (i : Nat) (h1 : 1 ≤ i) (hi : i ≤ s.size) (c : Int) (hp : 0 < s.size) (W F C O : Bool)
    (HC : Hid ((s[0].toNat : Int) = c)) (HW : Hid (termB s = W)) (HF : Hid (termB (s.extract 0 1) = F)) (HCU : Hid (termB (s.extract 0 i) = C)) (HO : Hid (openB s = O)) 
    (eF : F = (decide (c < 128) && (c != 92))) (eW : W = (F && !O)) (eC : 2 ≤ i → C = W) (w : World) :
    Calls Try.prog 5 #[.string s, .int .i64 i] w fun e w' => e = .returned (.bool true) ∧ Grown w w' := by
  have hz : ((s.size : Int) == 0) = false := beq_eq_false_iff_ne.2 (by omega)
  have hpI : (0 : Int) < (s.size : Int) := by omega
  have h1I : (1 : Int) ≤ (i : Int) := by omega
  have cc : (c < 128 ∧ c ≠ 92) ∨ (c < 128 ∧ c = 92) ∨ Hid (¬ c < 128) := by
    by_cases a : c < 128
    · by_cases b : c = 92
      · exact .inr (.inl ⟨a, b⟩)
      · exact .inl ⟨a, b⟩
    · exact .inr (.inr a)
  go_enter Try.func5, Try.ntmps5
  go_wp2_with fail
  refine (zb13_yes s (by omega) _ _).mono ?_
  rintro e w1 ⟨rfl, rfl⟩
  go_wp2_with fail
  refine (zterm_any s (by omega) hp _).mono ?_
  rintro e w2 ⟨rfl, n2, rfl⟩
  rw [HW.out]
  go_wp2_with fail
  refine (zterm_any _ (by simp; omega) (by simp; omega) _).mono ?_
  rintro e w2 ⟨rfl, n3, rfl⟩
  rw [HF.out]
  go_wp2_with fail
  refine (zterm_any _ (by simp; omega) (by simp; omega) _).mono ?_
  rintro e w2 ⟨rfl, n4, rfl⟩
  rw [HCU.out]
  have fin : ∀ w' : World, Grown w' (((w'.drewN n2).drewN n3).drewN n4) := fun w' => grown_drewN (grown_drewN (grown_drewN (Grown.refl _) _) _) _
  have ci : 2 ≤ i ∨ i ≤ 1 := by omega
  rcases cc with ⟨k1, k2⟩ | ⟨k1, k2⟩ | k1
  · have x0 := HC.out
    have x1 : decide (c < 128) = true := decide_eq_true k1
    have x2 : (c != 92) = true := by simpa using k2
    obtain rfl : F = true := by rw [eF]; simp [k1, k2]
    cases O
    all_goals
      simp at eW
      subst eW
      rcases ci with ci | ci
      · have e := eC ci
        subst e
        clear eC eF HC HW HF HCU
        go_wp2_with (go_at_call 15; refine (opens_any s (by omega) _).mono ?_; rintro e w5 ⟨rfl, rfl⟩; rw [HO.out])
        go_ret
        exact ⟨rfl, fin _⟩
      · clear eC eF HC HW HF HCU
        go_wp2_with (go_at_call 15; refine (opens_any s (by omega) _).mono ?_; rintro e w5 ⟨rfl, rfl⟩; rw [HO.out])
        go_ret
        exact ⟨rfl, fin _⟩
  · have x0 := HC.out
    have x1 : decide (c < 128) = true := decide_eq_true k1
    have x2 : (c != 92) = false := by simpa using k2
    obtain rfl : F = false := by rw [eF]; simp [k2]
    simp at eW
    subst eW
    rcases ci with ci | ci
    · have e := eC ci
      subst e
      clear eC eF HC HW HF HCU
      go_wp2
      go_ret
      exact ⟨rfl, fin _⟩
    · clear eC eF HC HW HF HCU
      go_wp2
      go_ret
      exact ⟨rfl, fin _⟩
  · have x0 := HC.out
    have x1 : decide (c < 128) = false := decide_eq_false (by have := k1.out; omega)
    obtain rfl : F = false := by rw [eF]; simp [x1]
    simp at eW
    subst eW
    rcases ci with ci | ci
    · have e := eC ci
      subst e
      clear eC eF HC HW HF HCU
      go_wp2
      go_ret
      exact ⟨rfl, fin _⟩
    · clear eC eF HC HW HF HCU
      go_wp2
      go_ret
      exact ⟨rfl, fin _⟩

theorem law5 (s : ByteArray) (i : Int) (w : World) :
    Calls Try.prog 5 #[.string s, .int .i64 i] w fun e w' => e = .returned (.bool true) ∧ Grown w w' := by
  by_cases a : 1048576 < s.size
  · exact law5_long s a i w
  by_cases b : 65536 < s.size
  · exact law5_edge s (by omega) i (.inl b) w
  by_cases c : s.size ≤ 0
  · exact law5_edge s (by omega) i (.inr (.inl ⟨by omega, c⟩)) w
  by_cases d : i < 1
  · exact law5_edge s (by omega) i (.inr (.inr (.inl ⟨by omega, by omega, d⟩))) w
  by_cases e : (s.size : Int) < i
  · exact law5_edge s (by omega) i (.inr (.inr (.inr ⟨by omega, by omega, by omega, e⟩))) w
  obtain ⟨k, rfl⟩ := Int.eq_ofNat_of_zero_le (show 0 ≤ i by omega)
  have hp : 0 < s.size := by omega
  have e0 : atB s 0 = (s[0].toNat : Int) := by simp [atB, hp]
  refine law5_core s (by omega) k (by omega) (by omega) (s[0].toNat : Int) hp _ _ _ _ rfl rfl rfl rfl rfl ?_ ?_ ?_ w
  · rw [term_first s hp, e0]
  · rw [term_first s hp, term_whole s]
  · intro h2; exact term_cut s k h2 (by omega)
end Go.Proofs.Qxb6613004a
