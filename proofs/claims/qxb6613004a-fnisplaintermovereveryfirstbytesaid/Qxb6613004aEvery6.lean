/-
  THE WALK of FnIsPlainTermOverEveryFirstByte.
-/
import Derived.Test.Qxb6613004aOne
namespace Go.Proofs.Qxb6613004a
open Go.RowKit

set_option maxHeartbeats 400000 in
theorem zb16_yes (s : ByteArray) (hs : s.size ≤ 1048576) (w : World) :
    Calls Try.prog 16 #[.string s] w fun e w' => e = .returned (.bool true) ∧ w' = w := by
  go_enter Try.func16, Try.ntmps16
  go_wp2
  go_ret
  exact ⟨rfl, rfl⟩
set_option maxHeartbeats 400000 in
theorem zb16_no (s : ByteArray) (hs : 1048576 < s.size) (w : World) :
    Calls Try.prog 16 #[.string s] w fun e w' => e = .returned (.bool false) ∧ w' = w := by
  go_enter Try.func16, Try.ntmps16
  go_wp2
  go_ret
  exact ⟨rfl, rfl⟩

set_option maxHeartbeats 400000 in
theorem law6_long (s : ByteArray) (hs : 1048576 < s.size) (w : World) :
    Calls Try.prog 6 #[.string s] w fun e w' => e = .returned (.bool true) ∧ Below w.heap.size w w' := by
  go_enter Try.func6, Try.ntmps6
  go_wp2_with fail
  refine (zb16_no s hs _).mono ?_
  rintro e w1 ⟨rfl, rfl⟩
  go_wp2
  go_ret
  exact ⟨rfl, Below.refl _ _⟩
set_option maxHeartbeats 400000 in
theorem law6_mid (s : ByteArray) (hs : s.size ≤ 1048576) (h : 4096 < s.size) (w : World) :
    Calls Try.prog 6 #[.string s] w fun e w' => e = .returned (.bool true) ∧ Below w.heap.size w w' := by
  go_enter Try.func6, Try.ntmps6
  go_wp2_with fail
  refine (zb16_yes s hs _).mono ?_
  rintro e w1 ⟨rfl, rfl⟩
  go_wp2
  go_ret
  exact ⟨rfl, Below.refl _ _⟩

set_option maxRecDepth 100000 in
set_option maxHeartbeats 1000000 in
theorem law6_core (t : ByteArray) (hs : t.size ≤ 4096) (w : World) :
    Calls Try.prog 6 #[.string t] w fun e w' => e = .returned (.bool true) ∧ Below w.heap.size w w' := by
  have t1 : decide ((4096 : Int) < (t.size : Int)) = false := decide_eq_false (by omega)
  have five : (t.size ≤ 0 ∧ Hid ((decide (atB t 0 < 0) || !delimB (atB t 0)) = true)) ∨
      (∃ h : 0 < t.size, ((t[0].toNat : Int) = 58 ∨ (t[0].toNat : Int) = 61 ∨ (t[0].toNat : Int) = 46) ∧ Hid ((decide (atB t 0 < 0) || !delimB (atB t 0)) = false)) ∨
      (∃ (h : 0 < t.size) (c : Int), (t[0].toNat : Int) = c ∧ (c == 58) = false ∧ (c == 61) = false ∧ (c == 46) = false ∧ Hid ((decide (atB t 0 < 0) || !delimB (atB t 0)) = true)) := by
    by_cases h : 0 < t.size
    · have e : atB t 0 = (t[0].toNat : Int) := by unfold atB; rw [dif_pos h]
      have e0 : ¬ (t[0].toNat : Int) < 0 := by omega
      by_cases d : delimB (t[0].toNat : Int) = true
      · refine .inr (.inl ⟨h, ?_, ?_⟩)
        · simp [delimB] at d; omega
        · show _ = _; rw [e, d]; simp
      · refine .inr (.inr ⟨h, _, rfl, ?_, ?_, ?_, ?_⟩)
        · simp [delimB] at d; simp; omega
        · simp [delimB] at d; simp; omega
        · simp [delimB] at d; simp; omega
        · show _ = _; rw [e]; simp at d; rw [d]; simp
    · refine .inl ⟨by omega, ?_⟩
      show _ = _
      unfold atB; rw [dif_neg h]; rfl
  have hs1 : ∀ k, (oneS k).size = 1 := oneS_size
  rcases five with ⟨hz, HD⟩ | ⟨hp, hx | hx | hx, HD⟩ | ⟨hp, c, hx, c1, c2, c3, HD⟩
  all_goals
    obtain ⟨d, hd⟩ : ∃ d, (decide (atB t 0 < 0) || !delimB (atB t 0)) = d := ⟨_, rfl⟩
    have HDD : Hid ((decide (atB t 0 < 0) || !delimB (atB t 0)) = d) := hd
    rw [hd] at HD
    clear hd
    go_enter Try.func6, Try.ntmps6
    go_wp2_with fail
    refine (zb16_yes t (by omega) _).mono ?_
    rintro e w1 ⟨rfl, rfl⟩
    go_wp2_with fail
    try clear hx
    try clear c1 c2 c3
    go_loopw [4, 5, 6] (fun va vb vc wr => ∃ k : Nat, k ≤ 256 ∧ vc = .int .i64 k ∧ va = .int .i64 (cnt (gB true) k) ∧ vb = .int .i64 (cnt (gB d) k) ∧ Hid (Below w1.heap.size w1 wr)) (fun _ _ vc _ => 256 - (intOf vc).toNat)
    case atStart => exact ⟨0, by omega, rfl, rfl, rfl, Below.refl _ _⟩
    case round =>
      obtain ⟨k, hk, rfl, rfl, rfl, HB⟩ := hrel
      have la := cnt_le (gB true) k
      have lb := cnt_le (gB d) k
      by_cases hlt : k < 256
      · have hk255 : k ≤ 255 := by omega
        have HX : Hid (termB (oneS k) = gB true k) := term_one k hk255
        have HY : termB (oneS k ++ t) = gB d k := by rw [term_app k hk255 t, HDD.out]
        have NA : Hid (cnt (gB true) (k + 1) = cnt (gB true) k + if gB true k = true then 1 else 0) := rfl
        have NB : Hid (cnt (gB d) (k + 1) = cnt (gB d) k + if gB d k = true then 1 else 0) := rfl
        have hxy : Hid (k ≠ 91 → gB true k = gB d k) := fun h => by unfold gB; rw [if_neg h, if_neg h]
        obtain ⟨X, hX⟩ : ∃ X, gB true k = X := ⟨_, rfl⟩
        obtain ⟨Y, hY⟩ : ∃ Y, gB d k = Y := ⟨_, rfl⟩
        have HYY : Hid (termB (oneS k ++ t) = gB d k) := HY
        rw [hX] at HX NA hxy
        rw [hY] at HYY NB hxy
        clear HY hX hY
        obtain ⟨A, hA⟩ : ∃ A, cnt (gB true) k = A := ⟨_, rfl⟩
        obtain ⟨B, hB⟩ : ∃ B, cnt (gB d) k = B := ⟨_, rfl⟩
        rw [hA] at NA la ⊢
        rw [hB] at NB lb ⊢
        clear hA hB
        go_wp2_with fail
        refine (one_any k hk255 _).mono ?_
        rintro e w2 ⟨rfl, hb2⟩
        have HB2 : Hid (Below w1.heap.size w1 w2) := HB.out.trans (hb2.mono HB.out.size)
        clear hb2
        go_wp2_with fail
        refine (zterm_any _ (by rw [oneS_size]; omega) (by rw [oneS_size]; omega) _).mono ?_
        rintro e w3 ⟨rfl, n3, rfl⟩
        rw [HX.out]
        go_wp2_with fail
        refine (one_any k hk255 _).mono ?_
        rintro e w3 ⟨rfl, hb3⟩
        have HB3 : Hid (Below w1.heap.size w1 w3) := (below_drewN HB2.out _).trans (hb3.mono (by simp; exact HB2.out.size))
        clear hb3
        go_wp2_with fail
        refine (zterm_any _ (by rw [size_app]; omega) (by rw [size_app]; omega) _).mono ?_
        rintro e w4 ⟨rfl, n4, rfl⟩
        rw [HYY.out]
        have HB4 : Hid (Below w1.heap.size w1 (w3.drewN n4)) := below_drewN HB3.out _
        clear HB HB2 HB3 HX HYY
        by_cases k91 : k = 91
        · have q91 : ((k : Int) != 91) = false := by simp; omega
          clear k91 hxy
          cases X
          all_goals cases Y
          all_goals
            simp at NA NB
            go_wp2
            go_roundw
            case rel => exact ⟨k + 1, by omega, by go_num, by first | (rw [NA.out]; done) | (rw [NA.out]; go_num), by first | (rw [NB.out]; done) | (rw [NB.out]; go_num), HB4⟩
            case measure => simp [intOf]; omega
        · have q91 : ((k : Int) != 91) = true := by simp; omega
          have e := hxy.out k91
          subst e
          clear k91 hxy
          cases X
          all_goals
            simp at NA NB
            go_wp2
            go_roundw
            case rel => exact ⟨k + 1, by omega, by go_num, by first | (rw [NA.out]; done) | (rw [NA.out]; go_num), by first | (rw [NB.out]; done) | (rw [NB.out]; go_num), HB4⟩
            case measure => simp [intOf]; omega
      · obtain rfl : k = 256 := by omega
        have E1 : cnt (gB true) 256 = 127 := cnt_true
        have E3 : cnt (gB d) 256 = if d = true then 127 else 126 := by
          cases d
          · exact cnt_false
          · exact cnt_true
        have E4 := HD.out
        first | rw [if_pos E4] at E3 | rw [if_neg (by rw [E4]; decide)] at E3
        clear E4
        rw [E1, E3]
        clear E1 E3 HD la lb
        go_wp2
        go_ret
        exact ⟨rfl, HB.out⟩

theorem law6 (t : ByteArray) (w : World) :
    Calls Try.prog 6 #[.string t] w fun e w' => e = .returned (.bool true) ∧ Below w.heap.size w w' := by
  by_cases a : 1048576 < t.size
  · exact law6_long t a w
  by_cases b : 4096 < t.size
  · exact law6_mid t (by omega) b w
  · exact law6_core t (by omega) w
end Go.Proofs.Qxb6613004a
