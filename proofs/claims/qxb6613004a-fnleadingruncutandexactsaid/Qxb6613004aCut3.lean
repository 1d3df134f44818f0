/-
  THE WALK of FnLeadingRunCutAndExact.
-/
import Derived.Test.Qxb6613004aRun
import Derived.Deep.RegionWith
import Derived.Deep.RegionHeld3
namespace Go.Proofs.Qxb6613004a
open Go.RowKit
open Lead

set_option maxHeartbeats 400000 in
theorem zb9_yes (s : ByteArray) (hs : s.size ≤ 1048576) (q0 q1 q2 q3 i : Int) (w : World) :
    Calls Try.prog 9 #[.string s, .agg #[.int .u64 q0, .int .u64 q1, .int .u64 q2, .int .u64 q3], .int .i64 i] w fun e w' => e = .returned (.bool true) ∧ Below w.heap.size w w' := by
  go_enter Try.func9, Try.ntmps9
  go_wp2
  go_ret
  exact ⟨rfl, (Below.refl _ _).alloc (Nat.le_refl _) _⟩
set_option maxHeartbeats 400000 in
theorem zb9_no (s : ByteArray) (hs : 1048576 < s.size) (q0 q1 q2 q3 i : Int) (w : World) :
    Calls Try.prog 9 #[.string s, .agg #[.int .u64 q0, .int .u64 q1, .int .u64 q2, .int .u64 q3], .int .i64 i] w fun e w' => e = .returned (.bool false) ∧ Below w.heap.size w w' := by
  go_enter Try.func9, Try.ntmps9
  go_wp2
  go_ret
  exact ⟨rfl, (Below.refl _ _).alloc (Nat.le_refl _) _⟩


/- THE CUT LIES WITHIN THE RUN: the run of s[:i] is i, the run of s is i + the run of s[i:]. -/
set_option maxHeartbeats 1000000 in
theorem walk3_in (s : ByteArray) (hs : s.size ≤ 65536) (q0 q1 q2 q3 : Int) (h0 : Word q0) (h1 : Word q1) (h2 : Word q2) (h3 : Word q3) (i : Nat) (hi : i ≤ s.size) (N A C : Nat)
    (hN : Hid (lead (inB q0 q1 q2 q3) s.data.toList = N)) (hA : Hid (lead (inB q0 q1 q2 q3) (s.extract 0 i).data.toList = A)) (hC : Hid (lead (inB q0 q1 q2 q3) (s.extract i s.size).data.toList = C))
    (hNs : N ≤ s.size) (hyes : ∀ m (h : m < s.size), m < N → Hid (inB q0 q1 q2 q3 (s[m].toNat : Int) = true)) (hno : ∀ h : N < s.size, Hid (inB q0 q1 q2 q3 (s[N].toNat : Int) = false)) (e1 : A ≤ i) (e2 : i ≤ A) (e3 : N ≤ i + C) (e4 : i + C ≤ N)
    (w : World) :
    Calls Try.prog 3 #[.string s, .agg #[.int .u64 q0, .int .u64 q1, .int .u64 q2, .int .u64 q3], .int .i64 i] w fun e w' => e = .returned (.bool true) ∧ Below w.heap.size w w' := by
  have hs1 : s.size ≤ 1048576 := by omega
  have t1 : decide ((65536:Int) < (s.size : Int)) = false := by simp; omega
  have t2 : decide ((i:Int) < 0) = false := by simp
  have t3 : decide (s.size < i) = false := by simp; omega
  have t4 : decide ((N:Int) < 0) = false := by simp
  have t5 : decide (s.size < N) = false := by simp; omega
  have tA : ((A : Int) == (i : Int)) = true := beq_iff_eq.2 (by omega)
  have tN : ((N : Int) != (i : Int) + (C : Int)) = false := by simp; omega
  go_enter Try.func3, Try.ntmps3
  go_wp2_with fail
  refine (zb9_yes s hs1 q0 q1 q2 q3 _ _).mono ?_
  rintro e w1 ⟨rfl, hb1⟩
  have hl1 := (Lies.new w q0 q1 q2 q3 23).below hb1 (by simp)
  have H1 : Hid (Lies w1 w.heap.size q0 q1 q2 q3) := hl1
  have S1 : w.heap.size < w1.heap.size := by have := hb1.size; simp at this; omega
  have HB1 : Hid (Below w.heap.size w w1) := ((Below.refl _ _).alloc (Nat.le_refl _) _).trans (hb1.mono (by simp))
  clear hb1
  obtain ⟨c10, c11, c12, c13⟩ := hl1
  go_wp2_with fail
  refine (zlr_any s hs1 q0 q1 q2 q3 h0 h1 h2 h3 _).mono ?_
  rintro e w2 ⟨rfl, hb2⟩
  rw [hN.out]
  have hl2 := H1.out.below hb2 S1
  have H2 : Hid (Lies w2 w.heap.size q0 q1 q2 q3) := hl2
  have S2 : w.heap.size < w2.heap.size := by have := hb2.size; omega
  have HB2 : Hid (Below w.heap.size w w2) := HB1.out.trans (hb2.mono (by omega))
  clear hb2 H1 HB1 c10 c11 c12 c13 S1
  obtain ⟨c20, c21, c22, c23⟩ := hl2
  go_wp2_with fail
  go_region_with (go_at_call 10; refine (zlr_any _ (by simp; omega) q0 q1 q2 q3 h0 h1 h2 h3 _).mono ?_; rintro e w3 ⟨rfl, hb3⟩; rw [hA.out])
  have hl3 := H2.out.drew.below hb3 S2
  have H3 : Hid (Lies w3 w.heap.size q0 q1 q2 q3) := hl3
  have S3 : w.heap.size < w3.heap.size := by have := hb3.size; simp at this; omega
  have HB3 : Hid (Below w.heap.size w w3) := HB2.out.drew.trans (hb3.mono (by simp; omega))
  clear hb3 H2 HB2 c20 c21 c22 c23 S2
  obtain ⟨c30, c31, c32, c33⟩ := hl3
  go_wp2_with fail
  go_region_with (go_at_call 10; refine (zlr_any _ (by simp; omega) q0 q1 q2 q3 h0 h1 h2 h3 _).mono ?_; rintro e w4 ⟨rfl, hb4⟩; rw [hC.out])
  have hl4 := H3.out.drew.below hb4 S3
  have H4 : Hid (Lies w4 w.heap.size q0 q1 q2 q3) := hl4
  have S4 : w.heap.size < w4.heap.size := by have := hb4.size; simp at this; omega
  have HB4 : Hid (Below w.heap.size w w4) := HB3.out.drew.trans (hb4.mono (by simp; omega))
  clear hb4 H3 HB3 c30 c31 c32 c33 S3 hl4
  go_wp2_with fail
  have HY : Hid (∀ m (h : m < s.size), m < N → Hid (inB q0 q1 q2 q3 (s[m].toNat : Int) = true)) := hyes
  have HNO : Hid (∀ h : N < s.size, Hid (inB q0 q1 q2 q3 (s[N].toNat : Int) = false)) := hno
  clear hyes hno
  go_loopw [11] (fun v wr => ∃ m : Nat, m ≤ N ∧ v = .int .i64 m ∧ Hid (Lies wr w.heap.size q0 q1 q2 q3) ∧ w.heap.size < wr.heap.size ∧ Hid (Below w.heap.size w wr)) (fun v _ => N - (intOf v).toNat)
  case atStart => exact ⟨0, Nat.zero_le _, rfl, H4, S4, HB4⟩
  case round =>
    clear H4 S4 HB4
    obtain ⟨m, hm, rfl, HL, SL, HBL⟩ := hrel
    obtain ⟨c0, c1, c2, c3⟩ := HL.out
    by_cases hlt : m < N
    · have hms : m < s.size := by omega
      have HF := HY.out m hms hlt
      obtain ⟨b0, b1⟩ := byte_le s[m]
      go_wp2_with fail
      go_region_held3 (fun w' => w'.cell? ⟨w.heap.size, 0, none⟩ = some (.int .u64 q0) ∧ w'.cell? ⟨w.heap.size, 1, none⟩ = some (.int .u64 q1) ∧ w'.cell? ⟨w.heap.size, 2, none⟩ = some (.int .u64 q2) ∧ w'.cell? ⟨w.heap.size, 3, none⟩ = some (.int .u64 q3)) (first | exact HL.out | exact HL.out.drew.below (by assumption) SL) ((go_at_call 11; refine (inb_any q0 q1 q2 q3 _ b0 b1 h0 h1 h2 h3 _).mono ?_; rintro e w5 ⟨rfl, hb5⟩; rw [HF.out]))
      have H5 : Hid (Lies w5 w.heap.size q0 q1 q2 q3) := HL.out.drew.below hb5 SL
      have S5 : w.heap.size < w5.heap.size := by have := hb5.size; simp at this; omega
      have HB5 : Hid (Below w.heap.size w w5) := HBL.out.drew.trans (hb5.mono (by simp; omega))
      clear hb5
      go_wp2
      go_roundw
      case rel => exact ⟨m + 1, by omega, by go_num, H5, S5, HB5⟩
      case measure => simp [intOf]; omega
    · by_cases hN2 : N < s.size
      · have HF := HNO.out hN2
        obtain ⟨b0, b1⟩ := byte_le s[N]
        have hd : ((N : Int) == (s.size : Int)) = false := beq_eq_false_iff_ne.2 (by omega)
        go_wp2_with fail
        go_region_held3 (fun w' => w'.cell? ⟨w.heap.size, 0, none⟩ = some (.int .u64 q0) ∧ w'.cell? ⟨w.heap.size, 1, none⟩ = some (.int .u64 q1) ∧ w'.cell? ⟨w.heap.size, 2, none⟩ = some (.int .u64 q2) ∧ w'.cell? ⟨w.heap.size, 3, none⟩ = some (.int .u64 q3)) (first | exact HL.out | exact HL.out.drew.below (by assumption) SL) ((go_at_call 11; refine (inb_any q0 q1 q2 q3 _ b0 b1 h0 h1 h2 h3 _).mono ?_; rintro e w5 ⟨rfl, hb5⟩; rw [HF.out]))
        go_wp2
        go_ret
        exact ⟨rfl, HBL.out.drew.trans (hb5.mono (by simp; omega))⟩
      · have hd : ((N : Int) == (s.size : Int)) = true := beq_iff_eq.2 (by omega)
        go_wp2_with fail
        go_region
        all_goals go_wp2
        all_goals go_ret
        all_goals exact ⟨rfl, HBL.out.drew⟩

/- THE CUT LIES PAST THE RUN: the run of s[:i] is the run of s. -/
set_option maxHeartbeats 1000000 in
theorem walk3_past (s : ByteArray) (hs : s.size ≤ 65536) (q0 q1 q2 q3 : Int) (h0 : Word q0) (h1 : Word q1) (h2 : Word q2) (h3 : Word q3) (i : Nat) (hi : i ≤ s.size) (N A C : Nat)
    (hN : Hid (lead (inB q0 q1 q2 q3) s.data.toList = N)) (hA : Hid (lead (inB q0 q1 q2 q3) (s.extract 0 i).data.toList = A)) (hC : Hid (lead (inB q0 q1 q2 q3) (s.extract i s.size).data.toList = C))
    (hNs : N ≤ s.size) (hyes : ∀ m (h : m < s.size), m < N → Hid (inB q0 q1 q2 q3 (s[m].toNat : Int) = true)) (hno : ∀ h : N < s.size, Hid (inB q0 q1 q2 q3 (s[N].toNat : Int) = false)) (e1 : A < i) (e2 : N ≤ A) (e3 : A ≤ N)
    (w : World) :
    Calls Try.prog 3 #[.string s, .agg #[.int .u64 q0, .int .u64 q1, .int .u64 q2, .int .u64 q3], .int .i64 i] w fun e w' => e = .returned (.bool true) ∧ Below w.heap.size w w' := by
  have hs1 : s.size ≤ 1048576 := by omega
  have t1 : decide ((65536:Int) < (s.size : Int)) = false := by simp; omega
  have t2 : decide ((i:Int) < 0) = false := by simp
  have t3 : decide (s.size < i) = false := by simp; omega
  have t4 : decide ((N:Int) < 0) = false := by simp
  have t5 : decide (s.size < N) = false := by simp; omega
  have tA : ((A : Int) == (i : Int)) = false := beq_eq_false_iff_ne.2 (by omega)
  have tN : ((N : Int) != (A : Int)) = false := by simp; omega
  go_enter Try.func3, Try.ntmps3
  go_wp2_with fail
  refine (zb9_yes s hs1 q0 q1 q2 q3 _ _).mono ?_
  rintro e w1 ⟨rfl, hb1⟩
  have hl1 := (Lies.new w q0 q1 q2 q3 23).below hb1 (by simp)
  have H1 : Hid (Lies w1 w.heap.size q0 q1 q2 q3) := hl1
  have S1 : w.heap.size < w1.heap.size := by have := hb1.size; simp at this; omega
  have HB1 : Hid (Below w.heap.size w w1) := ((Below.refl _ _).alloc (Nat.le_refl _) _).trans (hb1.mono (by simp))
  clear hb1
  obtain ⟨c10, c11, c12, c13⟩ := hl1
  go_wp2_with fail
  refine (zlr_any s hs1 q0 q1 q2 q3 h0 h1 h2 h3 _).mono ?_
  rintro e w2 ⟨rfl, hb2⟩
  rw [hN.out]
  have hl2 := H1.out.below hb2 S1
  have H2 : Hid (Lies w2 w.heap.size q0 q1 q2 q3) := hl2
  have S2 : w.heap.size < w2.heap.size := by have := hb2.size; omega
  have HB2 : Hid (Below w.heap.size w w2) := HB1.out.trans (hb2.mono (by omega))
  clear hb2 H1 HB1 c10 c11 c12 c13 S1
  obtain ⟨c20, c21, c22, c23⟩ := hl2
  go_wp2_with fail
  go_region_with (go_at_call 10; refine (zlr_any _ (by simp; omega) q0 q1 q2 q3 h0 h1 h2 h3 _).mono ?_; rintro e w3 ⟨rfl, hb3⟩; rw [hA.out])
  have hl3 := H2.out.drew.below hb3 S2
  have H3 : Hid (Lies w3 w.heap.size q0 q1 q2 q3) := hl3
  have S3 : w.heap.size < w3.heap.size := by have := hb3.size; simp at this; omega
  have HB3 : Hid (Below w.heap.size w w3) := HB2.out.drew.trans (hb3.mono (by simp; omega))
  clear hb3 H2 HB2 c20 c21 c22 c23 S2
  obtain ⟨c30, c31, c32, c33⟩ := hl3
  go_wp2_with fail
  go_region_with (go_at_call 10; refine (zlr_any _ (by simp; omega) q0 q1 q2 q3 h0 h1 h2 h3 _).mono ?_; rintro e w4 ⟨rfl, hb4⟩; rw [hC.out])
  have hl4 := H3.out.drew.below hb4 S3
  have H4 : Hid (Lies w4 w.heap.size q0 q1 q2 q3) := hl4
  have S4 : w.heap.size < w4.heap.size := by have := hb4.size; simp at this; omega
  have HB4 : Hid (Below w.heap.size w w4) := HB3.out.drew.trans (hb4.mono (by simp; omega))
  clear hb4 H3 HB3 c30 c31 c32 c33 S3 hl4
  go_wp2_with fail
  have HY : Hid (∀ m (h : m < s.size), m < N → Hid (inB q0 q1 q2 q3 (s[m].toNat : Int) = true)) := hyes
  have HNO : Hid (∀ h : N < s.size, Hid (inB q0 q1 q2 q3 (s[N].toNat : Int) = false)) := hno
  clear hyes hno
  go_loopw [11] (fun v wr => ∃ m : Nat, m ≤ N ∧ v = .int .i64 m ∧ Hid (Lies wr w.heap.size q0 q1 q2 q3) ∧ w.heap.size < wr.heap.size ∧ Hid (Below w.heap.size w wr)) (fun v _ => N - (intOf v).toNat)
  case atStart => exact ⟨0, Nat.zero_le _, rfl, H4, S4, HB4⟩
  case round =>
    clear H4 S4 HB4
    obtain ⟨m, hm, rfl, HL, SL, HBL⟩ := hrel
    obtain ⟨c0, c1, c2, c3⟩ := HL.out
    by_cases hlt : m < N
    · have hms : m < s.size := by omega
      have HF := HY.out m hms hlt
      obtain ⟨b0, b1⟩ := byte_le s[m]
      go_wp2_with fail
      go_region_held3 (fun w' => w'.cell? ⟨w.heap.size, 0, none⟩ = some (.int .u64 q0) ∧ w'.cell? ⟨w.heap.size, 1, none⟩ = some (.int .u64 q1) ∧ w'.cell? ⟨w.heap.size, 2, none⟩ = some (.int .u64 q2) ∧ w'.cell? ⟨w.heap.size, 3, none⟩ = some (.int .u64 q3)) (first | exact HL.out | exact HL.out.drew.below (by assumption) SL) ((go_at_call 11; refine (inb_any q0 q1 q2 q3 _ b0 b1 h0 h1 h2 h3 _).mono ?_; rintro e w5 ⟨rfl, hb5⟩; rw [HF.out]))
      have H5 : Hid (Lies w5 w.heap.size q0 q1 q2 q3) := HL.out.drew.below hb5 SL
      have S5 : w.heap.size < w5.heap.size := by have := hb5.size; simp at this; omega
      have HB5 : Hid (Below w.heap.size w w5) := HBL.out.drew.trans (hb5.mono (by simp; omega))
      clear hb5
      go_wp2
      go_roundw
      case rel => exact ⟨m + 1, by omega, by go_num, H5, S5, HB5⟩
      case measure => simp [intOf]; omega
    · by_cases hN2 : N < s.size
      · have HF := HNO.out hN2
        obtain ⟨b0, b1⟩ := byte_le s[N]
        have hd : ((N : Int) == (s.size : Int)) = false := beq_eq_false_iff_ne.2 (by omega)
        go_wp2_with fail
        go_region_held3 (fun w' => w'.cell? ⟨w.heap.size, 0, none⟩ = some (.int .u64 q0) ∧ w'.cell? ⟨w.heap.size, 1, none⟩ = some (.int .u64 q1) ∧ w'.cell? ⟨w.heap.size, 2, none⟩ = some (.int .u64 q2) ∧ w'.cell? ⟨w.heap.size, 3, none⟩ = some (.int .u64 q3)) (first | exact HL.out | exact HL.out.drew.below (by assumption) SL) ((go_at_call 11; refine (inb_any q0 q1 q2 q3 _ b0 b1 h0 h1 h2 h3 _).mono ?_; rintro e w5 ⟨rfl, hb5⟩; rw [HF.out]))
        go_wp2
        go_ret
        exact ⟨rfl, HBL.out.drew.trans (hb5.mono (by simp; omega))⟩
      · have hd : ((N : Int) == (s.size : Int)) = true := beq_iff_eq.2 (by omega)
        go_wp2_with fail
        go_region
        all_goals go_wp2
        all_goals go_ret
        all_goals exact ⟨rfl, HBL.out.drew⟩

set_option maxHeartbeats 400000 in
theorem walk3_long (s : ByteArray) (hs : 1048576 < s.size) (q0 q1 q2 q3 i : Int) (w : World) :
    Calls Try.prog 3 #[.string s, .agg #[.int .u64 q0, .int .u64 q1, .int .u64 q2, .int .u64 q3], .int .i64 i] w fun e w' => e = .returned (.bool true) ∧ Below w.heap.size w w' := by
  go_enter Try.func3, Try.ntmps3
  go_wp2_with fail
  refine (zb9_no s hs q0 q1 q2 q3 _ _).mono ?_
  rintro e w1 ⟨rfl, hb1⟩
  go_wp2
  go_ret
  exact ⟨rfl, ((Below.refl _ _).alloc (Nat.le_refl _) _).trans (hb1.mono (by simp))⟩

set_option maxHeartbeats 400000 in
theorem walk3_edge (s : ByteArray) (hs : s.size ≤ 1048576) (q0 q1 q2 q3 i : Int) (h : 65536 < s.size ∨ (s.size ≤ 65536 ∧ i < 0) ∨ (s.size ≤ 65536 ∧ 0 ≤ i ∧ (s.size : Int) < i)) (w : World) :
    Calls Try.prog 3 #[.string s, .agg #[.int .u64 q0, .int .u64 q1, .int .u64 q2, .int .u64 q3], .int .i64 i] w fun e w' => e = .returned (.bool true) ∧ Below w.heap.size w w' := by
  rcases h with h | ⟨h, hi⟩ | ⟨h, hi, hj⟩
  all_goals
    go_enter Try.func3, Try.ntmps3
    go_wp2_with fail
    refine (zb9_yes s hs q0 q1 q2 q3 _ _).mono ?_
    rintro e w1 ⟨rfl, hb1⟩
    go_wp2
    go_ret
    exact ⟨rfl, ((Below.refl _ _).alloc (Nat.le_refl _) _).trans (hb1.mono (by simp))⟩

theorem walk3 (s : ByteArray) (q0 q1 q2 q3 : Int) (h0 : Word q0) (h1 : Word q1) (h2 : Word q2) (h3 : Word q3) (i : Int) (w : World) :
    Calls Try.prog 3 #[.string s, .agg #[.int .u64 q0, .int .u64 q1, .int .u64 q2, .int .u64 q3], .int .i64 i] w fun e w' => e = .returned (.bool true) ∧ Below w.heap.size w w' := by
  by_cases a : 1048576 < s.size
  · exact walk3_long s a q0 q1 q2 q3 i w
  by_cases b : 65536 < s.size
  · exact walk3_edge s (by omega) q0 q1 q2 q3 i (.inl b) w
  by_cases c : i < 0
  · exact walk3_edge s (by omega) q0 q1 q2 q3 i (.inr (.inl ⟨by omega, c⟩)) w
  by_cases d : (s.size : Int) < i
  · exact walk3_edge s (by omega) q0 q1 q2 q3 i (.inr (.inr ⟨by omega, by omega, d⟩)) w
  obtain ⟨k, rfl⟩ := Int.eq_ofNat_of_zero_le (show 0 ≤ i by omega)
  have hk : k ≤ s.size := by omega
  have hlen : s.data.toList.length = s.size := by simp
  have cut := lead_cut (inB q0 q1 q2 q3) s.data.toList k
  have tk : lead (inB q0 q1 q2 q3) (s.extract 0 k).data.toList = lead (inB q0 q1 q2 q3) (s.data.toList.take k) := by rw [extract_list, List.drop_zero]
  have dp : lead (inB q0 q1 q2 q3) (s.extract k s.size).data.toList = lead (inB q0 q1 q2 q3) (s.data.toList.drop k) := by
    rw [extract_list, List.take_of_length_le (by omega)]
  have hle := lead_le (inB q0 q1 q2 q3) s.data.toList
  have hyes : ∀ m (h : m < s.size), m < lead (inB q0 q1 q2 q3) s.data.toList → Hid (inB q0 q1 q2 q3 (s[m].toNat : Int) = true) := fun m h hm => lead_at _ _ m hm (by omega)
  have hno : ∀ h : lead (inB q0 q1 q2 q3) s.data.toList < s.size, Hid (inB q0 q1 q2 q3 (s[lead (inB q0 q1 q2 q3) s.data.toList].toNat : Int) = false) := fun h => lead_stop _ _ (by omega)
  have hta : lead (inB q0 q1 q2 q3) (s.data.toList.take k) ≤ k := by rw [lead_take]; omega
  by_cases e : lead (inB q0 q1 q2 q3) (s.data.toList.take k) = k
  · have := cut.1 e
    exact walk3_in s (by omega) q0 q1 q2 q3 h0 h1 h2 h3 k hk _ _ _ rfl rfl rfl (by omega) hyes hno (by omega) (by omega) (by omega) (by omega) w
  · have := cut.2 e
    exact walk3_past s (by omega) q0 q1 q2 q3 h0 h1 h2 h3 k hk _ _ _ rfl rfl rfl (by omega) hyes hno (by omega) (by omega) (by omega) w
end Go.Proofs.Qxb6613004a
