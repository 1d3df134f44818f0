/-
  THE WALK of FnLayerOfCutAtAnyPlace, names being nil.
-/
import Derived.Test.Qxb6613783aLaw7
namespace Go.Proofs.Qxb6613783a
open Go.RowKit

set_option maxHeartbeats 400000 in
theorem named_none (an : Option Addr) (han : an = none) (n : Nat) (hn0 : n ≤ 0) (av : Option Addr) (m cv : Nat) (w : World) :
    Calls Try.prog 20 #[.slice an n n, .slice av m cv] w fun e w' => ∃ af, e = .returned (.slice af n n) ∧ w' = w := by
  subst han
  obtain rfl : n = 0 := by omega
  refine (named_nil av m cv w).mono ?_
  rintro e w' ⟨rfl, rfl⟩
  exact ⟨none, rfl, rfl⟩

set_option maxRecDepth 100000 in
set_option maxHeartbeats 4000000 in
theorem law7_none (s : ByteArray) (an : Option Addr) (han : an = none) (n : Nat) (hn0 : n ≤ 0) (NS : Nat → ByteArray) (av : Option Addr) (m cv : Nat) (M : Mat) (k : Int) (hs : (s.size : Int) ≤ 9223372036854775807) (hn : (n : Int) ≤ 9223372036854775807) (hm : (m : Int) ≤ 9223372036854775807) (w : World)
    (h1 : IsStrs w an n n NS) (h2 : IsMat w av m cv M) (hcv : m ≤ cv) (hN : ∀ i, i < m → (M.N i : Int) ≤ 9223372036854775807) :
    Calls Try.prog 7 #[.string s, .slice an n n, .slice av m cv, .int .i64 k] w fun e w' => e = .returned (.bool true) ∧ Below w.heap.size w w' := by
  have q22 : ∀ (w : World), (binOp .neq 22 (.slice an n n) (.slice none 0 0)).run Try.prog w = .ok (.bool false) w := fun w => by
    rw [run_neq_slice_nil_any w _ _ an n n 0 0 Try.underlying22, han]; rfl
  have HZ : Hid (n ≤ 0) := hn0
  have HA : Hid (an = none) := han
  clear hn0 han
  have H1 : Hid (IsStrs w an n n NS) := h1
  have H2 : Hid (IsMat w av m cv M) := h2
  have HN : Hid (∀ i, i < m → (M.N i : Int) ≤ 9223372036854775807) := hN
  clear h1 h2 hN
  go_enter Try.func7, Try.ntmps7
  go_wp2_with fail
  refine (zb18_any s _ n n NS av m cv M k hs hn hm _ H1.out H2.out HN.out).mono ?_
  rintro e w1 ⟨⟨r, rfl, hr⟩, rfl⟩
  cases r with
  | false =>
    go_wp2
    go_ret
    exact ⟨rfl, Below.refl _ _⟩
  | true =>
    obtain ⟨n1, m1, N1⟩ := hr rfl
    have HN1 : Hid (∀ i, i < m → M.N i ≤ 1048576) := N1
    clear hr N1 HN hn hm
    by_cases a1 : 1048576 < s.size
    · go_wp2
      go_ret
      exact ⟨rfl, Below.refl _ _⟩
    · have t1 : decide ((1048576 : Int) < s.size) = false := decide_eq_false (by omega)
      go_wp2_with fail
      obtain ⟨w4, e4⟩ : ∃ w4, w4 = w1 := ⟨_, rfl⟩
      have HI4 : Hid (IsStrs w4 an n n NS) := by rw [e4]; exact H1.out
      have HM4 : Hid (IsMat w4 av m cv M) := by rw [e4]; exact H2.out
      have HB4 : Hid (Below w1.heap.size w1 w4) := by rw [e4]; exact Below.refl _ _
      have S4 : w1.heap.size ≤ w4.heap.size := by rw [e4]; exact Nat.le_refl _
      rw [← e4]
      clear e4 H1 H2 q22
      refine (sb_all _ n _ NS n1 _ (by omega) (by omega) _ HI4.out).mono ?_
      rintro e w5 ⟨⟨r1, rfl, r1a, r1b⟩, rfl⟩
      by_cases a2 : 1048576 < s.size + r1
      · go_wp2
        go_ret
        exact ⟨rfl, HB4.out⟩
      · have t2 : decide ((1048576 : Int) < s.size + r1) = false := decide_eq_false a2
        go_wp2_with fail
        refine (mb_all _ m _ M m1 HN1.out _ (by omega) (by omega) _ HM4.out).mono ?_
        rintro e w6 ⟨⟨r2, rfl, r2a, r2b⟩, rfl⟩
        by_cases a3 : 1048576 < s.size + r1 + r2
        · go_wp2
          go_ret
          exact ⟨rfl, HB4.out⟩
        · have t3 : decide ((1048576 : Int) < s.size + r1 + r2) = false := decide_eq_false a3
          by_cases a4 : m = n
          · subst a4
            have t4 : ((m : Int) != (m : Int)) = false := by simp
            by_cases a5 : k < 0
            · go_wp2
              go_ret
              exact ⟨rfl, HB4.out⟩
            · have t5 : decide (k < 0) = false := decide_eq_false a5
              by_cases a6 : (m : Int) < k
              · go_wp2
                go_ret
                exact ⟨rfl, HB4.out⟩
              · have t6 : decide ((m : Int) < k) = false := decide_eq_false a6
                obtain ⟨kn, rfl⟩ : ∃ kn : Nat, k = (kn : Int) := ⟨k.toNat, by omega⟩
                have hkn : kn ≤ m := by omega
                go_wp2_with fail
                have F0 : (w6.alloc (.cells #[.string s, .slice none 0 0] 50)).cell? ⟨w6.heap.size, 0, none⟩ = some (.string s) := by
                  simp only [World.cell?, World.alloc_heap_new]; rfl
                have F1 : (w6.alloc (.cells #[.string s, .slice none 0 0] 50)).cell? ⟨w6.heap.size, 1, none⟩ = some (.slice none 0 0) := by
                  simp only [World.cell?, World.alloc_heap_new]; rfl
                have A7 : Below w6.heap.size w6 (w6.alloc (.cells #[.string s, .slice none 0 0] 50)) := (Below.refl _ _).alloc (Nat.le_refl _) _
                have HI7 : Hid (IsStrs (w6.alloc (.cells #[.string s, .slice none 0 0] 50)) an m m NS) := HI4.out.below A7
                have HM7 : Hid (IsMat (w6.alloc (.cells #[.string s, .slice none 0 0] 50)) av m cv M) := HM4.out.below A7
                have HB7 : Hid (Below w1.heap.size w1 (w6.alloc (.cells #[.string s, .slice none 0 0] 50))) := HB4.out.trans (A7.mono S4)
                have S7 : w6.heap.size < (w6.alloc (.cells #[.string s, .slice none 0 0] 50)).heap.size := by simp
                obtain ⟨w7, e7⟩ : ∃ w7, w7 = w6.alloc (.cells #[.string s, .slice none 0 0] 50) := ⟨_, rfl⟩
                rw [← e7] at HI7 HM7 HB7 F0 F1 S7 ⊢
                clear e7 A7 HI4 HM4 HB4
                obtain ⟨F, eF⟩ : ∃ F, F = w6.heap.size := ⟨_, rfl⟩
                rw [← eF] at F0 F1 S7 ⊢
                clear eF
                refine (named_none an HA.out m HZ.out _ _ _ _).mono ?_
                rintro e w8 ⟨af, rfl, e8⟩
                have ST8 : Hid (Stand w1 w8 F s af an av m NS M) := by
                  rw [e8]
                  exact ⟨F0, F1, S7, fun h => absurd h (by have := HZ.out; omega), HI7.out.names, HM7.out.lens, HB7.out⟩
                clear F0 F1 S7 HI7 HM7 HB7 e8
                obtain ⟨aL, cL, qL, pL⟩ := cut_left 51 2 Try.elems51 Try.sz51 af m m kn hkn
                obtain ⟨aR, cR, qR, pR⟩ := cut_right 51 2 Try.elems51 Try.sz51 af m m kn hkn
                obtain ⟨q, hq⟩ : ∃ q, m - kn = q := ⟨_, rfl⟩
                rw [hq] at qR
                have HQ : Hid (m - kn = q) := hq
                have hq1 : kn + q ≤ m := by omega
                have hq2 : m ≤ kn + q := by omega
                clear hq
                have HpL : Hid (∀ g o, af = some ⟨g, o, none⟩ → aL = some ⟨g, o, none⟩) := pL
                have HpR : Hid (kn < m → ∀ g o, af = some ⟨g, o, none⟩ → aR = some ⟨g, o + kn * 2, none⟩) := pR
                clear pL pR
                have f0 := ST8.out.ft0
                have f1 := ST8.out.ft1
                go_wp2_with fail
                refine (layer_any s _ _ _ _).mono ?_
                rintro e w9 ⟨L1, rfl, l1, b1⟩
                have LA1 : Hid (LayerAt w9 L1 s (.slice af m m)) := l1
                have ST9 : Hid (Stand w1 w9 F s af an av m NS M) := ST8.out.next b1
                clear l1 b1 ST8 f0 f1
                have f0 := ST9.out.ft0
                have f1 := ST9.out.ft1
                go_wp2
                go_region_with (go_at_call 21; refine (layer_any s _ _ _ _).mono ?_; rintro e w10 ⟨L2, rfl, l2, b2⟩)
                have bb2 : Below w9.heap.size w9 w10 := ((Below.refl _ w9).drew).trans b2
                have LB1 : Hid (LayerAt w10 L1 s (.slice af m m)) := LA1.out.below bb2
                have LB2 : Hid (LayerAt w10 L2 s (.slice aL kn cL)) := l2
                have ST10 : Hid (Stand w1 w10 F s af an av m NS M) := ST9.out.next bb2
                clear l2 b2 bb2 ST9 LA1 f0 f1
                have f0 := ST10.out.ft0
                have f1 := ST10.out.ft1
                go_wp2
                go_region_with (go_at_call 21; refine (layer_any s _ _ _ _).mono ?_; rintro e w11 ⟨L3, rfl, l3, b3⟩)
                have bb3 : Below w10.heap.size w10 w11 := ((Below.refl _ w10).drew).trans b3
                have LC1 : Hid (LayerAt w11 L1 s (.slice af m m)) := LB1.out.below bb3
                have LC2 : Hid (LayerAt w11 L2 s (.slice aL kn cL)) := LB2.out.below bb3
                have LC3 : Hid (LayerAt w11 L3 s (.slice aR q cR)) := l3
                have ST11 : Hid (Stand w1 w11 F s af an av m NS M) := ST10.out.next bb3
                clear l3 b3 bb3 ST10 LB1 LB2 f0 f1
                have n1 := LC1.out.1
                have n2 := LC2.out.1
                have n3 := LC3.out.1
                clear qL qR
                go_wp2_with fail
                refine (runs_any _ _ _ _ _ _ LC1.out).mono ?_
                rintro e w12 ⟨g1, c1, rfl, y1, z1, b12⟩
                have LD2 : Hid (LayerAt w12 L2 s (.slice aL kn cL)) := LC2.out.below b12
                have LD3 : Hid (LayerAt w12 L3 s (.slice aR q cR)) := LC3.out.below b12
                have ST12 : Hid (Stand w1 w12 F s af an av m NS M) := ST11.out.next b12
                clear b12 LC1 LC2 LC3 ST11 n1 n2 n3
                go_wp2_with fail
                refine (runs_any _ _ _ _ _ _ LD2.out).mono ?_
                rintro e w13 ⟨g2, c2, rfl, y2, z2, b13⟩
                have LE3 : Hid (LayerAt w13 L3 s (.slice aR q cR)) := LD3.out.below b13
                have ST13 : Hid (Stand w1 w13 F s af an av m NS M) := ST12.out.next b13
                have y1' := (b13.cell (p := ⟨g1, 0, none⟩) z1).trans y1
                have z1' := Nat.lt_of_lt_of_le z1 b13.size
                clear b13 LD2 LD3 ST12 y1 z1
                go_wp2_with fail
                refine (runs_any _ _ _ _ _ _ LE3.out).mono ?_
                rintro e w14 ⟨g3, c3, rfl, y3, z3, b14⟩
                have RU : Hid (Runs3 w14 g1 g2 g3 (.slice af m m) (.slice aL kn cL) (.slice aR q cR)) :=
                  ⟨(b14.cell (p := ⟨g1, 0, none⟩) z1').trans y1', (b14.cell (p := ⟨g2, 0, none⟩) z2).trans y2, y3, Nat.lt_of_lt_of_le z1' b14.size, Nat.lt_of_lt_of_le z2 b14.size, z3⟩
                have ST14 : Hid (Stand w1 w14 F s af an av m NS M) := ST13.out.next b14
                clear b14 LE3 ST13 y1' z1' y2 z2 y3 z3
                have y1 := RU.out.1
                have y2 := RU.out.2
                have y3 := RU.out.3
                go_wp2_with fail
                refine (match_any _ _ _ m _ _ _ NS M.N m1 HN1.out _ ST14.out.run ST14.out.names ST14.out.lens).mono ?_
                rintro e w15 ⟨rfl, b15⟩
                have RV : Hid (Runs3 w15 g1 g2 g3 (.slice af m m) (.slice aL kn cL) (.slice aR q cR)) := RU.out.next b15
                have ST15 : Hid (Stand w1 w15 F s af an av m NS M) := ST14.out.next b15
                clear b15 RU ST14 y1 y2 y3
                have y1 := RV.out.1
                have y2 := RV.out.2
                have y3 := RV.out.3
                obtain ⟨anL, cnL, qnL, pnL⟩ := cut_left 22 1 Try.elems22 Try.sz22 an m m kn hkn
                obtain ⟨avL, cvL, qvL, pvL⟩ := cut_left 45 1 Try.elems45 Try.sz45 av m cv kn (by omega)
                have D15 : Below w15.heap.size w15 w15.drew := (Below.refl _ w15).drew
                have XR : Hid (IsRun w15.drew aL kn NS M.N) := (ST15.out.run.left hkn HpL.out).below D15
                have XN : Hid (Names w15.drew anL kn NS) := (ST15.out.names.left hkn pnL).below D15
                have XL : Hid (Lens w15.drew avL kn M.N) := (ST15.out.lens.left hkn pvL).below D15
                clear D15
                clear pnL pvL
                go_wp2
                go_region_with (go_at_call 23; refine (match_any _ _ _ kn _ _ _ NS M.N (by omega) (fun i hi => HN1.out i (by omega)) _ XR.out XN.out XL.out).mono ?_; rintro e w16 ⟨rfl, b16⟩)
                have bb16 : Below w15.heap.size w15 w16 := ((Below.refl _ w15).drew).trans b16
                have RW : Hid (Runs3 w16 g1 g2 g3 (.slice af m m) (.slice aL kn cL) (.slice aR q cR)) := RV.out.next bb16
                have ST16 : Hid (Stand w1 w16 F s af an av m NS M) := ST15.out.next bb16
                clear b16 bb16 RV ST15 y1 y2 y3 qnL qvL XR XN XL
                have y1 := RW.out.1
                have y2 := RW.out.2
                have y3 := RW.out.3
                obtain ⟨anR, cnR, qnR, pnR⟩ := cut_right 22 1 Try.elems22 Try.sz22 an m m kn hkn
                obtain ⟨avR, cvR, qvR, pvR⟩ := cut_right 45 1 Try.elems45 Try.sz45 av m cv kn hkn
                have D16 : Below w16.heap.size w16 w16.drew := (Below.refl _ w16).drew
                have XR : Hid (IsRun w16.drew aR q (fun i => NS (kn + i)) (fun i => M.N (kn + i))) := by have := (ST16.out.run.right HpR.out).below D16; rw [HQ.out] at this; exact this
                have XN : Hid (Names w16.drew anR q (fun i => NS (kn + i))) := by have := (ST16.out.names.right pnR).below D16; rw [HQ.out] at this; exact this
                have XL : Hid (Lens w16.drew avR q (fun i => M.N (kn + i))) := by have := (ST16.out.lens.right (fun h => pvR (by omega))).below D16; rw [HQ.out] at this; exact this
                clear D16
                rw [HQ.out] at qnR qvR
                clear pnR pvR
                go_wp2
                go_region_with (go_at_call 23; refine (match_any _ _ _ q _ _ _ _ _ (by omega) (fun i hi => HN1.out (kn + i) (by omega)) _ XR.out XN.out XL.out).mono ?_; rintro e w17 ⟨rfl, b17⟩)
                have bb17 : Below w16.heap.size w16 w17 := ((Below.refl _ w16).drew).trans b17
                have RX : Hid (Runs3 w17 g1 g2 g3 (.slice af m m) (.slice aL kn cL) (.slice aR q cR)) := RW.out.next bb17
                have HB17 : Hid (Below w1.heap.size w1 w17) := (ST16.out.next bb17).below
                have AF : Hid (0 < m → ∃ g o, af = some ⟨g, o, none⟩) := fun h => by obtain ⟨g, o, e, _⟩ := ST16.out.run h; exact ⟨g, o, e⟩
                clear b17 bb17 RW ST16 y1 y2 y3 qnR qvR XR XN XL
                go_wp2_with fail
                have qp : ∀ (W : World) (a : Addr), (binOp .neq 63 (.pointer (some a)) (.pointer (some a))).run Try.prog W = .ok (.bool false) W := neq63
                go_loopw [25] (fun v wr => ∃ (j : Nat), j ≤ kn ∧ v = .int .i64 j ∧ Hid (Runs3 wr g1 g2 g3 (.slice af m m) (.slice aL kn cL) (.slice aR q cR)) ∧ Hid (Below w1.heap.size w1 wr)) (fun v _ => kn - (intOf v).toNat)
                case atStart => exact ⟨0, Nat.zero_le _, rfl, RX, HB17⟩
                case round =>
                  clear RX HB17
                  obtain ⟨j, hj, rfl, RX, HB⟩ := hrel
                  have y1 := RX.out.1
                  have y2 := RX.out.2
                  have y3 := RX.out.3
                  by_cases hlt : j < kn
                  · obtain ⟨G, o, rfl⟩ := AF.out (by omega)
                    obtain rfl := HpL.out G o rfl
                    have hjm : j < m := by omega
                    go_wp2_with fail
                    go_quiet (fail)
                    go_wp2_with fail
                    go_roundw
                    case rel => exact ⟨j + 1, by omega, by go_num, (show Hid (Runs3 (wr.drewN nq) g1 g2 g3 _ _ _) from RX.out.next (below_drewN (Below.refl _ _) nq)), below_drewN HB.out nq⟩
                    case measure => simp [intOf]; omega
                  · go_wp2_with fail
                    go_loopw [26] (fun v wr' => ∃ (j : Nat), j ≤ q ∧ v = .int .i64 j ∧ Hid (Runs3 wr' g1 g2 g3 (.slice af m m) (.slice aL kn cL) (.slice aR q cR)) ∧ Hid (Below w1.heap.size w1 wr')) (fun v _ => q - (intOf v).toNat)
                    case atStart => exact ⟨0, Nat.zero_le _, rfl, RX, HB⟩
                    case round =>
                      clear RX HB y1 y2 y3 hlt hj
                      obtain ⟨i, hi, rfl, RX, HB⟩ := hrel
                      have y1 := RX.out.1
                      have y2 := RX.out.2
                      have y3 := RX.out.3
                      by_cases hlt : i < q
                      · obtain ⟨G, o, rfl⟩ := AF.out (by omega)
                        obtain rfl := HpR.out (by omega) G o rfl
                        have hjm : kn + i < m := by omega
                        have hsum : kn + i < 2097152 := by omega
                        have hwr := wrapw kn i hsum
                        have hwq := wrapq kn i hsum
                        have hix := fun W => idx51 G o m m kn i hjm W
                        go_wp2_with fail
                        go_quiet (fail)
                        clear hwr hwq hix
                        go_wp2_with fail
                        go_roundw
                        case rel => exact ⟨i + 1, by omega, by go_num, (show Hid (Runs3 (wr.drewN nq) g1 g2 g3 _ _ _) from RX.out.next (below_drewN (Below.refl _ _) nq)), below_drewN HB.out nq⟩
                        case measure => simp [intOf]; omega
                      · go_wp2_with fail
                        go_ret
                        exact ⟨rfl, HB.out⟩
          · have t4 : ((m : Int) != (n : Int)) = true := by simp; omega
            go_wp2
            go_ret
            exact ⟨rfl, HB4.out⟩

theorem law7 (s : ByteArray) (an : Option Addr) (n cn : Nat) (NS : Nat → ByteArray) (av : Option Addr) (m cv : Nat) (M : Mat) (k : Int) (hs : s.size ≤ maxLen) (hn : n ≤ maxLen) (hm : m ≤ maxLen) (w : World)
    (h1 : IsStrs w an n cn NS) (h2 : IsMat w av m cv M) (hcv : m ≤ cv) (hN : ∀ i, i < m → M.N i ≤ maxLen) :
    Calls Try.prog 7 #[.string s, .slice an n cn, .slice av m cv, .int .i64 k] w fun e w' => e = .returned (.bool true) ∧ Below w.heap.size w w' := by
  have hN' : ∀ i, i < m → (M.N i : Int) ≤ 9223372036854775807 := fun i hi => by have := hN i hi; unfold maxLen at this; omega
  unfold maxLen at hs hn hm
  cases an with
  | none =>
    rcases h1 with ⟨_, rfl, rfl⟩ | ⟨x, e, _⟩
    · exact law7_none s none rfl 0 (Nat.le_refl _) NS av m cv M k (by omega) (by omega) (by omega) w (.inl ⟨rfl, rfl, rfl⟩) h2 hcv hN'
    · cases e
  | some x => exact law7_some s x n cn NS av m cv M k (by omega) (by omega) (by omega) w h1 h2 hcv hN'
end Go.Proofs.Qxb6613783a
