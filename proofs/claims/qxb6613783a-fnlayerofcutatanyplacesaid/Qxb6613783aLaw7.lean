/-
  THE WALK of FnLayerOfCutAtAnyPlace.
-/
import Derived.Test.Qxb6613783aTags3
import Derived.Test.Qxb6613783aMatch
import Derived.Test.Qxb6613783aRuns
import Derived.Lib.Builder
namespace Go.Proofs.Qxb6613783a
open Go.RowKit

theorem cut_left (t sz : Nat) (hu : Try.prog.underlying t = some (.slice (Try.prog.elem t))) (hsz : ∀ W, (sizeOf (Try.prog.elem t)).run Try.prog W = .ok sz W) (a : Option Addr) (len cap k : Nat) (hk : k ≤ cap) :
    ∃ a' c', (∀ W, (Instr.slice t (.slice a len cap) none (some (.int .i64 k)) none).run Try.prog W = .ok (.slice a' k c') W) ∧ ∀ g o, a = some ⟨g, o, none⟩ → a' = some ⟨g, o, none⟩ := by
  refine ⟨if cap = 0 then a else a.map (·.add (0 * sz)), cap, fun W => ?_, fun g o e => ?_⟩
  · rw [run_slice_h W t a len cap hu .i64 k (by omega) (by omega), hsz]
    simp [Result.andThen, sliced]
  · subst e
    simp [Addr.add]

theorem cut_right (t sz : Nat) (hu : Try.prog.underlying t = some (.slice (Try.prog.elem t))) (hsz : ∀ W, (sizeOf (Try.prog.elem t)).run Try.prog W = .ok sz W) (a : Option Addr) (len cap k : Nat) (hk : k ≤ len) :
    ∃ a' c', (∀ W, (Instr.slice t (.slice a len cap) (some (.int .i64 k)) none none).run Try.prog W = .ok (.slice a' (len - k) c') W) ∧ (k < cap → ∀ g o, a = some ⟨g, o, none⟩ → a' = some ⟨g, o + k * sz, none⟩) := by
  refine ⟨if cap = k then a else a.map (·.add (k * sz)), cap - k, fun W => ?_, fun hc g o e => ?_⟩
  · rw [run_slice_l W t a len cap hu .i64 k (by omega) (by omega), hsz]
    simp [Result.andThen, sliced]
  · subst e
    rw [if_neg (by omega)]
    simp [Addr.add]

theorem Try.elems51 : Try.prog.underlying 51 = some (.slice (Try.prog.elem 51)) := by kernel_rfl
theorem Try.elems22 : Try.prog.underlying 22 = some (.slice (Try.prog.elem 22)) := by kernel_rfl
theorem Try.elems45 : Try.prog.underlying 45 = some (.slice (Try.prog.elem 45)) := by kernel_rfl
theorem Try.sz51 (W : World) : (sizeOf (Try.prog.elem 51)).run Try.prog W = .ok 2 W := by kernel_rfl
theorem Try.sz22 (W : World) : (sizeOf (Try.prog.elem 22)).run Try.prog W = .ok 1 W := by kernel_rfl
theorem Try.sz45 (W : World) : (sizeOf (Try.prog.elem 45)).run Try.prog W = .ok 1 W := by kernel_rfl

theorem IsRun.left {w : World} {a a' : Option Addr} {n k : Nat} {NS : Nat → ByteArray} {N : Nat → Nat} (h : IsRun w a n NS N) (hk : k ≤ n) (ha : ∀ g o, a = some ⟨g, o, none⟩ → a' = some ⟨g, o, none⟩) : IsRun w a' k NS N := fun hp => by
  obtain ⟨B, o, e, hB, hr⟩ := h (by omega)
  exact ⟨B, o, ha B o e, hB, fun i hi => hr i (by omega)⟩
theorem Names.left {w : World} {a a' : Option Addr} {n k : Nat} {NS : Nat → ByteArray} (h : Names w a n NS) (hk : k ≤ n) (ha : ∀ g o, a = some ⟨g, o, none⟩ → a' = some ⟨g, o, none⟩) : Names w a' k NS := fun hp => by
  obtain ⟨B, o, e, hB, hr⟩ := h (by omega)
  exact ⟨B, o, ha B o e, hB, fun i hi => hr i (by omega)⟩
theorem Lens.left {w : World} {a a' : Option Addr} {n k : Nat} {N : Nat → Nat} (h : Lens w a n N) (hk : k ≤ n) (ha : ∀ g o, a = some ⟨g, o, none⟩ → a' = some ⟨g, o, none⟩) : Lens w a' k N := fun hp => by
  obtain ⟨B, o, e, hB, hr⟩ := h (by omega)
  exact ⟨B, o, ha B o e, hB, fun i hi => hr i (by omega)⟩
theorem IsRun.right {w : World} {a a' : Option Addr} {n k : Nat} {NS : Nat → ByteArray} {N : Nat → Nat} (h : IsRun w a n NS N) (ha : k < n → ∀ g o, a = some ⟨g, o, none⟩ → a' = some ⟨g, o + k * 2, none⟩) : IsRun w a' (n - k) (fun i => NS (k + i)) (fun i => N (k + i)) := fun hp => by
  obtain ⟨B, o, e, hB, hr⟩ := h (by omega)
  refine ⟨B, o + k * 2, ha (by omega) B o e, hB, fun i hi => ?_⟩
  have := hr (k + i) (by omega)
  rw [show o + (k + i) * 2 = o + k * 2 + i * 2 by omega] at this
  exact this
theorem Names.right {w : World} {a a' : Option Addr} {n k : Nat} {NS : Nat → ByteArray} (h : Names w a n NS) (ha : k < n → ∀ g o, a = some ⟨g, o, none⟩ → a' = some ⟨g, o + k * 1, none⟩) : Names w a' (n - k) (fun i => NS (k + i)) := fun hp => by
  obtain ⟨B, o, e, hB, hr⟩ := h (by omega)
  refine ⟨B, o + k * 1, ha (by omega) B o e, hB, fun i hi => ?_⟩
  have := hr (k + i) (by omega)
  rw [show o + (k + i) = o + k * 1 + i by omega] at this
  exact this
theorem Lens.right {w : World} {a a' : Option Addr} {n k : Nat} {N : Nat → Nat} (h : Lens w a n N) (ha : k < n → ∀ g o, a = some ⟨g, o, none⟩ → a' = some ⟨g, o + k * 1, none⟩) : Lens w a' (n - k) (fun i => N (k + i)) := fun hp => by
  obtain ⟨B, o, e, hB, hr⟩ := h (by omega)
  refine ⟨B, o + k * 1, ha (by omega) B o e, hB, fun i hi => ?_⟩
  have := hr (k + i) (by omega)
  rw [show o + (k + i) = o + k * 1 + i by omega] at this
  exact this

theorem Try.under63 : Try.prog.underlying 63 = some (.pointer 68) := by kernel_rfl
theorem neq63 (W : World) (a : Addr) : (binOp .neq 63 (.pointer (some a)) (.pointer (some a))).run Try.prog W = .ok (.bool false) W := by
  obtain ⟨i0, hi, _, _, _⟩ := info_parts Try.info68
  exact Lib.run_neq_ptr_same W a Try.under63 hi

theorem wrapq (a b : Nat) (h : a + b < 2097152) : IntKind.i64.wrap ((a : Int) + (b : Int)) = (a : Int) + (b : Int) := by rw [IntKind.wrap_i64]; omega
theorem wrapw (a b : Nat) (h : a + b < 2097152) : wrap64 ((a : Int) + (b : Int)) = (a : Int) + (b : Int) := IntWalk.wrap64_in _ ⟨by omega, by omega⟩
/-- The address of the element k + i, spelled as the cut's i-th. -/
theorem idx51 (G o m c k i : Nat) (h : k + i < m) (W : World) : (Instr.indexAt 51 (.slice (some ⟨G, o, none⟩) m c) (.int .i64 ((k : Int) + (i : Int)))).run Try.prog W = .ok (.pointer (some ⟨G, o + k * 2 + i * 2, none⟩)) W := by
  rw [run_indexAt_slice W 51 _ m c .i64 _ Try.elems51, if_pos ⟨by omega, by omega⟩, Try.sz51]
  have e : (((k : Int) + (i : Int)).toNat) = k + i := by omega
  rw [e]
  simp only [Result.andThen, Addr.add]
  rw [show o + (k + i) * 2 = o + k * 2 + i * 2 by omega]
  split
  · obtain rfl : k = 0 := by omega
    obtain rfl : i = 0 := by omega
    rfl
  · rfl

/-- What stands from the making of the features on. -/
structure Stand (w1 W : World) (F : Nat) (s : ByteArray) (af an av : Option Addr) (m : Nat) (NS : Nat → ByteArray) (M : Mat) : Prop where
  ft0 : W.cell? ⟨F, 0, none⟩ = some (.string s)
  ft1 : W.cell? ⟨F, 1, none⟩ = some (.slice none 0 0)
  fl : F < W.heap.size
  run : IsRun W af m NS M.N
  names : Names W an m NS
  lens : Lens W av m M.N
  below : Below w1.heap.size w1 W

theorem Stand.next {w1 W W' : World} {F : Nat} {s : ByteArray} {af an av : Option Addr} {m : Nat} {NS : Nat → ByteArray} {M : Mat} (h : Stand w1 W F s af an av m NS M) (hb : Below W.heap.size W W') : Stand w1 W' F s af an av m NS M :=
  ⟨(hb.cell (p := ⟨F, 0, none⟩) h.fl).trans h.ft0, (hb.cell (p := ⟨F, 1, none⟩) h.fl).trans h.ft1, Nat.lt_of_lt_of_le h.fl hb.size, h.run.below hb, h.names.below hb, h.lens.below hb, h.below.trans (hb.mono h.below.size)⟩

/-- The three answers of ZZrunsOf. -/
structure Runs3 (W : World) (g1 g2 g3 : Nat) (v1 v2 v3 : Value) : Prop where
  a : W.cell? ⟨g1, 0, none⟩ = some v1
  b : W.cell? ⟨g2, 0, none⟩ = some v2
  c : W.cell? ⟨g3, 0, none⟩ = some v3
  la : g1 < W.heap.size
  lb : g2 < W.heap.size
  lc : g3 < W.heap.size
theorem Runs3.next {W W' : World} {g1 g2 g3 : Nat} {v1 v2 v3 : Value} (h : Runs3 W g1 g2 g3 v1 v2 v3) (hb : Below W.heap.size W W') : Runs3 W' g1 g2 g3 v1 v2 v3 :=
  ⟨(hb.cell (p := ⟨g1, 0, none⟩) h.la).trans h.a, (hb.cell (p := ⟨g2, 0, none⟩) h.lb).trans h.b, (hb.cell (p := ⟨g3, 0, none⟩) h.lc).trans h.c, Nat.lt_of_lt_of_le h.la hb.size, Nat.lt_of_lt_of_le h.lb hb.size, Nat.lt_of_lt_of_le h.lc hb.size⟩

theorem IsStrs.names {w : World} {a : Option Addr} {n c : Nat} {S : Nat → ByteArray} (h : IsStrs w a n c S) : Names w a n S := fun hp => h.loc hp
theorem IsMat.lens {w : World} {a : Option Addr} {n c : Nat} {M : Mat} (h : IsMat w a n c M) : Lens w a n M.N := fun hp => by
  obtain ⟨b, o, e, hb, hc⟩ := h.loc hp
  exact ⟨b, o, e, hb, fun i hi => ⟨_, _, (hc i hi).1⟩⟩

set_option maxRecDepth 100000 in
set_option maxHeartbeats 4000000 in
theorem law7_some (s : ByteArray) (x : Addr) (n cn : Nat) (NS : Nat → ByteArray) (av : Option Addr) (m cv : Nat) (M : Mat) (k : Int) (hs : (s.size : Int) ≤ 9223372036854775807) (hn : (n : Int) ≤ 9223372036854775807) (hm : (m : Int) ≤ 9223372036854775807) (w : World)
    (h1 : IsStrs w (some x) n cn NS) (h2 : IsMat w av m cv M) (hcv : m ≤ cv) (hN : ∀ i, i < m → (M.N i : Int) ≤ 9223372036854775807) :
    Calls Try.prog 7 #[.string s, .slice (some x) n cn, .slice av m cv, .int .i64 k] w fun e w' => e = .returned (.bool true) ∧ Below w.heap.size w w' := by
  have q22 : ∀ (w : World) (a : Option Addr) (n c n' c' : Nat), (binOp .neq 22 (.slice a n c) (.slice none n' c')).run Try.prog w = .ok (.bool (!a.isNone)) w := fun w a n c n' c' => run_neq_slice_nil_any w _ _ a n c n' c' Try.underlying22
  obtain ⟨i0, hi, hz0, hz1, hz2⟩ := info_parts Try.info9
  have H1 : Hid (IsStrs w (some x) n cn NS) := h1
  have H2 : Hid (IsMat w av m cv M) := h2
  have HN : Hid (∀ i, i < m → (M.N i : Int) ≤ 9223372036854775807) := hN
  clear h1 h2 hN
  go_enter Try.func7, Try.ntmps7
  go_wp2_with fail
  refine (zb18_any s _ n cn NS av m cv M k hs hn hm _ H1.out H2.out HN.out).mono ?_
  rintro e w1 ⟨⟨r, rfl, hr⟩, rfl⟩
  cases r with
  | false =>
    go_wp2
    go_ret
    exact ⟨rfl, Below.refl _ _⟩
  | true =>
    obtain ⟨n1, m1, N1⟩ := hr rfl
    have HN1 : Hid (∀ i, i < m → M.N i ≤ 1048576) := N1
    clear hr N1 HN hn hm
    by_cases a1 : 1048576 < s.size
    · go_wp2
      go_ret
      exact ⟨rfl, Below.refl _ _⟩
    · have t1 : decide ((1048576 : Int) < s.size) = false := decide_eq_false (by omega)
      go_wp2_with (at_make; refine wpList_make_full _ rfl _ _ 22 rfl w1.heap.size 9 i0 _ 1 Try.under22 hi hz0 hz1 .i64 .i64 n n n rfl rfl rfl rfl ?_ ?_ (Nat.le_refl _) ?_; rotate_right; intro w3 hown3 hgrow3; obtain ⟨w4, hcp, hi4, hs4, hb4⟩ := copy_strs hown3 H1.out ((Below.refl _ _).grown hgrow3 (Nat.le_refl _) (fun k e => by cases e)))
      case refine_1 => rw [hz2]; omega
      case refine_2 => unfold maxLen; omega
      have HI4 : Hid (IsStrs w4 (some ⟨w1.heap.size, 0, none⟩) n n NS) := hi4
      have HM4 : Hid (IsMat w4 av m cv M) := H2.out.below hb4
      have HB4 : Hid (Below w1.heap.size w1 w4) := hb4
      have S4 : w1.heap.size ≤ w4.heap.size := hb4.size
      clear hi4 hb4 hs4 hown3 hgrow3 H1 H2 hi hz0 hz1 hz2 q22
      clear hcp
      refine (sb_all _ n _ NS n1 _ (by omega) (by omega) _ HI4.out).mono ?_
      rintro e w5 ⟨⟨r1, rfl, r1a, r1b⟩, rfl⟩
      by_cases a2 : 1048576 < s.size + r1
      · go_wp2
        go_ret
        exact ⟨rfl, HB4.out⟩
      · have t2 : decide ((1048576 : Int) < s.size + r1) = false := decide_eq_false a2
        go_wp2_with fail
        refine (mb_all _ m _ M m1 HN1.out _ (by omega) (by omega) _ HM4.out).mono ?_
        rintro e w6 ⟨⟨r2, rfl, r2a, r2b⟩, rfl⟩
        by_cases a3 : 1048576 < s.size + r1 + r2
        · go_wp2
          go_ret
          exact ⟨rfl, HB4.out⟩
        · have t3 : decide ((1048576 : Int) < s.size + r1 + r2) = false := decide_eq_false a3
          by_cases a4 : m = n
          · subst a4
            have t4 : ((m : Int) != (m : Int)) = false := by simp
            by_cases a5 : k < 0
            · go_wp2
              go_ret
              exact ⟨rfl, HB4.out⟩
            · have t5 : decide (k < 0) = false := decide_eq_false a5
              by_cases a6 : (m : Int) < k
              · go_wp2
                go_ret
                exact ⟨rfl, HB4.out⟩
              · have t6 : decide ((m : Int) < k) = false := decide_eq_false a6
                obtain ⟨kn, rfl⟩ : ∃ kn : Nat, k = (kn : Int) := ⟨k.toNat, by omega⟩
                have hkn : kn ≤ m := by omega
                go_wp2_with fail
                have F0 : (w6.alloc (.cells #[.string s, .slice none 0 0] 50)).cell? ⟨w6.heap.size, 0, none⟩ = some (.string s) := by
                  simp only [World.cell?, World.alloc_heap_new]; rfl
                have F1 : (w6.alloc (.cells #[.string s, .slice none 0 0] 50)).cell? ⟨w6.heap.size, 1, none⟩ = some (.slice none 0 0) := by
                  simp only [World.cell?, World.alloc_heap_new]; rfl
                have A7 : Below w6.heap.size w6 (w6.alloc (.cells #[.string s, .slice none 0 0] 50)) := (Below.refl _ _).alloc (Nat.le_refl _) _
                have HI7 : Hid (IsStrs (w6.alloc (.cells #[.string s, .slice none 0 0] 50)) (some ⟨w1.heap.size, 0, none⟩) m m NS) := HI4.out.below A7
                have HM7 : Hid (IsMat (w6.alloc (.cells #[.string s, .slice none 0 0] 50)) av m cv M) := HM4.out.below A7
                have HB7 : Hid (Below w1.heap.size w1 (w6.alloc (.cells #[.string s, .slice none 0 0] 50))) := HB4.out.trans (A7.mono S4)
                have S7 : w6.heap.size < (w6.alloc (.cells #[.string s, .slice none 0 0] 50)).heap.size := by simp
                obtain ⟨w7, e7⟩ : ∃ w7, w7 = w6.alloc (.cells #[.string s, .slice none 0 0] 50) := ⟨_, rfl⟩
                rw [← e7] at HI7 HM7 HB7 F0 F1 S7 ⊢
                clear e7 A7 HI4 HM4 HB4
                obtain ⟨F, eF⟩ : ∃ F, F = w6.heap.size := ⟨_, rfl⟩
                rw [← eF] at F0 F1 S7 ⊢
                clear eF
                refine (named_some _ m _ NS _ _ M m1 HN1.out _ HI7.out HM7.out).mono ?_
                rintro e w8 ⟨rfl, g8, hr8, b8⟩
                have ST8 : Hid (Stand w1 w8 F s (some ⟨w7.heap.size, 0, none⟩) (some ⟨w1.heap.size, 0, none⟩) av m NS M) :=
                  ⟨(b8.cell (p := ⟨F, 0, none⟩) S7).trans F0, (b8.cell (p := ⟨F, 1, none⟩) S7).trans F1, Nat.lt_trans S7 g8, fun _ => ⟨_, 0, rfl, g8, hr8⟩, (HI7.out.below b8).names, (HM7.out.below b8).lens, HB7.out.trans (b8.mono HB7.out.size)⟩
                clear F0 F1 S7 g8 hr8 b8 HI7 HM7 HB7
                obtain ⟨af, eaf⟩ : ∃ af : Option Addr, af = some ⟨w7.heap.size, 0, none⟩ := ⟨_, rfl⟩
                obtain ⟨an, ean⟩ : ∃ an : Option Addr, an = some ⟨w1.heap.size, 0, none⟩ := ⟨_, rfl⟩
                rw [← eaf, ← ean] at ST8 ⊢
                clear eaf ean
                obtain ⟨aL, cL, qL, pL⟩ := cut_left 51 2 Try.elems51 Try.sz51 af m m kn hkn
                obtain ⟨aR, cR, qR, pR⟩ := cut_right 51 2 Try.elems51 Try.sz51 af m m kn hkn
                obtain ⟨q, hq⟩ : ∃ q, m - kn = q := ⟨_, rfl⟩
                rw [hq] at qR
                have HQ : Hid (m - kn = q) := hq
                have hq1 : kn + q ≤ m := by omega
                have hq2 : m ≤ kn + q := by omega
                clear hq
                have HpL : Hid (∀ g o, af = some ⟨g, o, none⟩ → aL = some ⟨g, o, none⟩) := pL
                have HpR : Hid (kn < m → ∀ g o, af = some ⟨g, o, none⟩ → aR = some ⟨g, o + kn * 2, none⟩) := pR
                clear pL pR
                have f0 := ST8.out.ft0
                have f1 := ST8.out.ft1
                go_wp2_with fail
                refine (layer_any s _ _ _ _).mono ?_
                rintro e w9 ⟨L1, rfl, l1, b1⟩
                have LA1 : Hid (LayerAt w9 L1 s (.slice af m m)) := l1
                have ST9 : Hid (Stand w1 w9 F s af an av m NS M) := ST8.out.next b1
                clear l1 b1 ST8 f0 f1
                have f0 := ST9.out.ft0
                have f1 := ST9.out.ft1
                go_wp2
                go_region_with (go_at_call 21; refine (layer_any s _ _ _ _).mono ?_; rintro e w10 ⟨L2, rfl, l2, b2⟩)
                have bb2 : Below w9.heap.size w9 w10 := ((Below.refl _ w9).drew).trans b2
                have LB1 : Hid (LayerAt w10 L1 s (.slice af m m)) := LA1.out.below bb2
                have LB2 : Hid (LayerAt w10 L2 s (.slice aL kn cL)) := l2
                have ST10 : Hid (Stand w1 w10 F s af an av m NS M) := ST9.out.next bb2
                clear l2 b2 bb2 ST9 LA1 f0 f1
                have f0 := ST10.out.ft0
                have f1 := ST10.out.ft1
                go_wp2
                go_region_with (go_at_call 21; refine (layer_any s _ _ _ _).mono ?_; rintro e w11 ⟨L3, rfl, l3, b3⟩)
                have bb3 : Below w10.heap.size w10 w11 := ((Below.refl _ w10).drew).trans b3
                have LC1 : Hid (LayerAt w11 L1 s (.slice af m m)) := LB1.out.below bb3
                have LC2 : Hid (LayerAt w11 L2 s (.slice aL kn cL)) := LB2.out.below bb3
                have LC3 : Hid (LayerAt w11 L3 s (.slice aR q cR)) := l3
                have ST11 : Hid (Stand w1 w11 F s af an av m NS M) := ST10.out.next bb3
                clear l3 b3 bb3 ST10 LB1 LB2 f0 f1
                have n1 := LC1.out.1
                have n2 := LC2.out.1
                have n3 := LC3.out.1
                clear qL qR
                go_wp2_with fail
                refine (runs_any _ _ _ _ _ _ LC1.out).mono ?_
                rintro e w12 ⟨g1, c1, rfl, y1, z1, b12⟩
                have LD2 : Hid (LayerAt w12 L2 s (.slice aL kn cL)) := LC2.out.below b12
                have LD3 : Hid (LayerAt w12 L3 s (.slice aR q cR)) := LC3.out.below b12
                have ST12 : Hid (Stand w1 w12 F s af an av m NS M) := ST11.out.next b12
                clear b12 LC1 LC2 LC3 ST11 n1 n2 n3
                go_wp2_with fail
                refine (runs_any _ _ _ _ _ _ LD2.out).mono ?_
                rintro e w13 ⟨g2, c2, rfl, y2, z2, b13⟩
                have LE3 : Hid (LayerAt w13 L3 s (.slice aR q cR)) := LD3.out.below b13
                have ST13 : Hid (Stand w1 w13 F s af an av m NS M) := ST12.out.next b13
                have y1' := (b13.cell (p := ⟨g1, 0, none⟩) z1).trans y1
                have z1' := Nat.lt_of_lt_of_le z1 b13.size
                clear b13 LD2 LD3 ST12 y1 z1
                go_wp2_with fail
                refine (runs_any _ _ _ _ _ _ LE3.out).mono ?_
                rintro e w14 ⟨g3, c3, rfl, y3, z3, b14⟩
                have RU : Hid (Runs3 w14 g1 g2 g3 (.slice af m m) (.slice aL kn cL) (.slice aR q cR)) :=
                  ⟨(b14.cell (p := ⟨g1, 0, none⟩) z1').trans y1', (b14.cell (p := ⟨g2, 0, none⟩) z2).trans y2, y3, Nat.lt_of_lt_of_le z1' b14.size, Nat.lt_of_lt_of_le z2 b14.size, z3⟩
                have ST14 : Hid (Stand w1 w14 F s af an av m NS M) := ST13.out.next b14
                clear b14 LE3 ST13 y1' z1' y2 z2 y3 z3
                have y1 := RU.out.1
                have y2 := RU.out.2
                have y3 := RU.out.3
                go_wp2_with fail
                refine (match_any _ _ _ m _ _ _ NS M.N m1 HN1.out _ ST14.out.run ST14.out.names ST14.out.lens).mono ?_
                rintro e w15 ⟨rfl, b15⟩
                have RV : Hid (Runs3 w15 g1 g2 g3 (.slice af m m) (.slice aL kn cL) (.slice aR q cR)) := RU.out.next b15
                have ST15 : Hid (Stand w1 w15 F s af an av m NS M) := ST14.out.next b15
                clear b15 RU ST14 y1 y2 y3
                have y1 := RV.out.1
                have y2 := RV.out.2
                have y3 := RV.out.3
                obtain ⟨anL, cnL, qnL, pnL⟩ := cut_left 22 1 Try.elems22 Try.sz22 an m m kn hkn
                obtain ⟨avL, cvL, qvL, pvL⟩ := cut_left 45 1 Try.elems45 Try.sz45 av m cv kn (by omega)
                have D15 : Below w15.heap.size w15 w15.drew := (Below.refl _ w15).drew
                have XR : Hid (IsRun w15.drew aL kn NS M.N) := (ST15.out.run.left hkn HpL.out).below D15
                have XN : Hid (Names w15.drew anL kn NS) := (ST15.out.names.left hkn pnL).below D15
                have XL : Hid (Lens w15.drew avL kn M.N) := (ST15.out.lens.left hkn pvL).below D15
                clear D15
                clear pnL pvL
                go_wp2
                go_region_with (go_at_call 23; refine (match_any _ _ _ kn _ _ _ NS M.N (by omega) (fun i hi => HN1.out i (by omega)) _ XR.out XN.out XL.out).mono ?_; rintro e w16 ⟨rfl, b16⟩)
                have bb16 : Below w15.heap.size w15 w16 := ((Below.refl _ w15).drew).trans b16
                have RW : Hid (Runs3 w16 g1 g2 g3 (.slice af m m) (.slice aL kn cL) (.slice aR q cR)) := RV.out.next bb16
                have ST16 : Hid (Stand w1 w16 F s af an av m NS M) := ST15.out.next bb16
                clear b16 bb16 RV ST15 y1 y2 y3 qnL qvL XR XN XL
                have y1 := RW.out.1
                have y2 := RW.out.2
                have y3 := RW.out.3
                obtain ⟨anR, cnR, qnR, pnR⟩ := cut_right 22 1 Try.elems22 Try.sz22 an m m kn hkn
                obtain ⟨avR, cvR, qvR, pvR⟩ := cut_right 45 1 Try.elems45 Try.sz45 av m cv kn hkn
                have D16 : Below w16.heap.size w16 w16.drew := (Below.refl _ w16).drew
                have XR : Hid (IsRun w16.drew aR q (fun i => NS (kn + i)) (fun i => M.N (kn + i))) := by have := (ST16.out.run.right HpR.out).below D16; rw [HQ.out] at this; exact this
                have XN : Hid (Names w16.drew anR q (fun i => NS (kn + i))) := by have := (ST16.out.names.right pnR).below D16; rw [HQ.out] at this; exact this
                have XL : Hid (Lens w16.drew avR q (fun i => M.N (kn + i))) := by have := (ST16.out.lens.right (fun h => pvR (by omega))).below D16; rw [HQ.out] at this; exact this
                clear D16
                rw [HQ.out] at qnR qvR
                clear pnR pvR
                go_wp2
                go_region_with (go_at_call 23; refine (match_any _ _ _ q _ _ _ _ _ (by omega) (fun i hi => HN1.out (kn + i) (by omega)) _ XR.out XN.out XL.out).mono ?_; rintro e w17 ⟨rfl, b17⟩)
                have bb17 : Below w16.heap.size w16 w17 := ((Below.refl _ w16).drew).trans b17
                have RX : Hid (Runs3 w17 g1 g2 g3 (.slice af m m) (.slice aL kn cL) (.slice aR q cR)) := RW.out.next bb17
                have HB17 : Hid (Below w1.heap.size w1 w17) := (ST16.out.next bb17).below
                have AF : Hid (0 < m → ∃ g o, af = some ⟨g, o, none⟩) := fun h => by obtain ⟨g, o, e, _⟩ := ST16.out.run h; exact ⟨g, o, e⟩
                clear b17 bb17 RW ST16 y1 y2 y3 qnR qvR XR XN XL
                go_wp2_with fail
                have qp : ∀ (W : World) (a : Addr), (binOp .neq 63 (.pointer (some a)) (.pointer (some a))).run Try.prog W = .ok (.bool false) W := neq63
                go_loopw [25] (fun v wr => ∃ (j : Nat), j ≤ kn ∧ v = .int .i64 j ∧ Hid (Runs3 wr g1 g2 g3 (.slice af m m) (.slice aL kn cL) (.slice aR q cR)) ∧ Hid (Below w1.heap.size w1 wr)) (fun v _ => kn - (intOf v).toNat)
                case atStart => exact ⟨0, Nat.zero_le _, rfl, RX, HB17⟩
                case round =>
                  clear RX HB17
                  obtain ⟨j, hj, rfl, RX, HB⟩ := hrel
                  have y1 := RX.out.1
                  have y2 := RX.out.2
                  have y3 := RX.out.3
                  by_cases hlt : j < kn
                  · obtain ⟨G, o, rfl⟩ := AF.out (by omega)
                    obtain rfl := HpL.out G o rfl
                    have hjm : j < m := by omega
                    go_wp2_with fail
                    go_quiet (fail)
                    go_wp2_with fail
                    go_roundw
                    case rel => exact ⟨j + 1, by omega, by go_num, (show Hid (Runs3 (wr.drewN nq) g1 g2 g3 _ _ _) from RX.out.next (below_drewN (Below.refl _ _) nq)), below_drewN HB.out nq⟩
                    case measure => simp [intOf]; omega
                  · go_wp2_with fail
                    go_loopw [26] (fun v wr' => ∃ (j : Nat), j ≤ q ∧ v = .int .i64 j ∧ Hid (Runs3 wr' g1 g2 g3 (.slice af m m) (.slice aL kn cL) (.slice aR q cR)) ∧ Hid (Below w1.heap.size w1 wr')) (fun v _ => q - (intOf v).toNat)
                    case atStart => exact ⟨0, Nat.zero_le _, rfl, RX, HB⟩
                    case round =>
                      clear RX HB y1 y2 y3 hlt hj
                      obtain ⟨i, hi, rfl, RX, HB⟩ := hrel
                      have y1 := RX.out.1
                      have y2 := RX.out.2
                      have y3 := RX.out.3
                      by_cases hlt : i < q
                      · obtain ⟨G, o, rfl⟩ := AF.out (by omega)
                        obtain rfl := HpR.out (by omega) G o rfl
                        have hjm : kn + i < m := by omega
                        have hsum : kn + i < 2097152 := by omega
                        have hwr := wrapw kn i hsum
                        have hwq := wrapq kn i hsum
                        have hix := fun W => idx51 G o m m kn i hjm W
                        go_wp2_with fail
                        go_quiet (fail)
                        clear hwr hwq hix
                        go_wp2_with fail
                        go_roundw
                        case rel => exact ⟨i + 1, by omega, by go_num, (show Hid (Runs3 (wr.drewN nq) g1 g2 g3 _ _ _) from RX.out.next (below_drewN (Below.refl _ _) nq)), below_drewN HB.out nq⟩
                        case measure => simp [intOf]; omega
                      · go_wp2_with fail
                        go_ret
                        exact ⟨rfl, HB.out⟩
          · have t4 : ((m : Int) != (n : Int)) = true := by simp; omega
            go_wp2
            go_ret
            exact ⟨rfl, HB4.out⟩
end Go.Proofs.Qxb6613783a
