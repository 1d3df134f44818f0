/-
  THE WALKS of the bounds on the arguments of FnLayerOfCutAtAnyPlace (zzBytes.., zzMatrixBytes).
-/
import Derived.Test.Qxb6613783aNewF
namespace Go.Proofs.Qxb6613783a
open Go.RowKit

/-- The rows of a slice of slices of strings: row i is the slice (A i, N i, C i) over the strings S i. -/
structure Mat where
  A : Nat → Option Addr
  N : Nat → Nat
  C : Nat → Nat
  S : Nat → Nat → ByteArray

/-- The cells of a slice of slices of strings. -/
def MatAt (w : World) (b o m : Nat) (M : Mat) : Prop := ∀ i, i < m → w.cell? ⟨b, o + i, none⟩ = some (.slice (M.A i) (M.N i) (M.C i)) ∧ IsStrs w (M.A i) (M.N i) (M.C i) (M.S i)

def IsMat (w : World) (a : Option Addr) (m c : Nat) (M : Mat) : Prop :=
  (a = none ∧ m = 0 ∧ c = 0) ∨ ∃ x, a = some x ∧ (0 < m → ∃ b o, x = ⟨b, o, none⟩ ∧ b < w.heap.size ∧ MatAt w b o m M)

theorem MatAt.below {w w' : World} {b o m : Nat} {M : Mat} (h : MatAt w b o m M) (hb : b < w.heap.size) (hB : Below w.heap.size w w') : MatAt w' b o m M :=
  fun i hi => ⟨(hB.cell (p := ⟨b, o + i, none⟩) hb).trans (h i hi).1, (h i hi).2.below hB⟩
theorem IsMat.below {w w' : World} {a : Option Addr} {m c : Nat} {M : Mat} (h : IsMat w a m c M) (hB : Below w.heap.size w w') : IsMat w' a m c M := by
  rcases h with h | ⟨x, rfl, h⟩
  · exact .inl h
  · refine .inr ⟨x, rfl, fun hp => ?_⟩
    obtain ⟨b, o, rfl, hlt, hc⟩ := h hp
    exact ⟨b, o, rfl, Nat.lt_of_lt_of_le hlt hB.size, hc.below hlt hB⟩

set_option maxHeartbeats 400000 in
theorem mb_nil (a : Option Addr) (c : Nat) (bud : Int) (w : World) :
    Calls Try.prog 19 #[.slice a 0 c, .int .i64 bud] w fun e w' => e = .returned (.int .i64 0) ∧ w' = w := by
  go_enter Try.func19, Try.ntmps19
  go_wp2
  refine wp_loop_rounds 1 ?_
  rw [rounds_succ]
  go_wp2
  go_ret
  exact ⟨rfl, rfl⟩

set_option maxHeartbeats 1000000 in
theorem mb_any (b o m c : Nat) (M : Mat) (hm : m ≤ 1048576) (hN : ∀ i, i < m → M.N i ≤ 1048576) (bud : Int) (hb0 : 0 ≤ bud) (hb1 : bud ≤ 1048576) (w : World) (hc : MatAt w b o m M) :
    Calls Try.prog 19 #[.slice (some ⟨b, o, none⟩) m c, .int .i64 bud] w fun e w' => IsInt 0 8388608 e ∧ w' = w := by
  have HC : Hid (MatAt w b o m M) := hc
  have HN : Hid (∀ i, i < m → M.N i ≤ 1048576) := hN
  clear hc hN
  go_enter Try.func19, Try.ntmps19
  go_wp2
  go_loop [5, 6] (fun vz vk => ∃ (k : Nat) (z : Int), k ≤ m ∧ vk = .int .i64 k ∧ vz = .int .i64 z ∧ 0 ≤ z ∧ z ≤ bud) (fun _ vk => m - (intOf vk).toNat)
  case atStart => exact ⟨0, 0, Nat.zero_le _, rfl, rfl, by omega, by omega⟩
  case round =>
    obtain ⟨k, z, hk, rfl, rfl, z0, z1⟩ := hrel
    by_cases hlt : k < m
    · obtain ⟨g, hS⟩ := HC.out k hlt
      have hNk := HN.out k hlt
      by_cases a1 : bud < z + 24
      · go_wp2
        go_ret
        exact ⟨⟨_, rfl, by omega, by omega⟩, rfl⟩
      · go_wp2_with fail
        refine (sb_all _ _ _ _ hNk _ (by omega) (by omega) _ hS).mono ?_
        rintro e w2 ⟨⟨r, rfl, r0, r1⟩, rfl⟩
        by_cases a2 : bud < z + 24 + r
        · go_wp2
          go_ret
          exact ⟨⟨_, rfl, by omega, by omega⟩, rfl⟩
        · go_wp2
          go_round
          case rel => exact ⟨k + 1, z + 24 + r, by omega, by go_num, by go_num, by omega, by omega⟩
          case measure => simp [intOf]; omega
    · go_wp2
      go_ret
      exact ⟨⟨_, rfl, by omega, by omega⟩, rfl⟩

theorem mb_all (a : Option Addr) (m c : Nat) (M : Mat) (hm : m ≤ 1048576) (hN : ∀ i, i < m → M.N i ≤ 1048576) (bud : Int) (hb0 : 0 ≤ bud) (hb1 : bud ≤ 1048576) (w : World) (h : IsMat w a m c M) :
    Calls Try.prog 19 #[.slice a m c, .int .i64 bud] w fun e w' => IsInt 0 8388608 e ∧ w' = w := by
  by_cases hp : 0 < m
  · rcases h with ⟨rfl, rfl, rfl⟩ | ⟨x, rfl, h⟩
    · omega
    · obtain ⟨b, o, rfl, hlt, hc⟩ := h hp
      exact mb_any b o m c M hm hN bud hb0 hb1 w hc
  · obtain rfl : m = 0 := by omega
    refine (mb_nil a c bud w).mono ?_
    rintro e w' ⟨rfl, rfl⟩
    exact ⟨⟨_, rfl, by omega, by omega⟩, rfl⟩

theorem IsStrs.loc {w : World} {a : Option Addr} {n c : Nat} {S : Nat → ByteArray} (h : IsStrs w a n c S) (hp : 0 < n) : ∃ b o, a = some ⟨b, o, none⟩ ∧ b < w.heap.size ∧ Cells w b o n S := by
  rcases h with ⟨_, rfl, _⟩ | ⟨x, rfl, h⟩
  · omega
  · obtain ⟨b, o, rfl, hlt, hc⟩ := h hp
    exact ⟨b, o, rfl, hlt, hc⟩
theorem IsMat.loc {w : World} {a : Option Addr} {m c : Nat} {M : Mat} (h : IsMat w a m c M) (hp : 0 < m) : ∃ b o, a = some ⟨b, o, none⟩ ∧ b < w.heap.size ∧ MatAt w b o m M := by
  rcases h with ⟨_, rfl, _⟩ | ⟨x, rfl, h⟩
  · omega
  · obtain ⟨b, o, rfl, hlt, hc⟩ := h hp
    exact ⟨b, o, rfl, hlt, hc⟩

/-- It answers a bool; a yes says that no slice is long. -/
def Bud (n m : Nat) (M : Mat) (e : Ending) : Prop := ∃ r, e = .returned (.bool r) ∧ (r = true → n ≤ 1048576 ∧ m ≤ 1048576 ∧ ∀ i, i < m → M.N i ≤ 1048576)
theorem Bud.no {n m : Nat} {M : Mat} : Bud n m M (.returned (.bool false)) := ⟨false, rfl, fun h => by cases h⟩

set_option maxHeartbeats 2000000 in
theorem zb18_any (s : ByteArray) (an : Option Addr) (n cn : Nat) (S : Nat → ByteArray) (av : Option Addr) (m cv : Nat) (M : Mat) (k : Int) (hs : (s.size : Int) ≤ 9223372036854775807) (hn : (n : Int) ≤ 9223372036854775807) (hm : (m : Int) ≤ 9223372036854775807) (w : World)
    (h1 : IsStrs w an n cn S) (h2 : IsMat w av m cv M) (hN : ∀ i, i < m → (M.N i : Int) ≤ 9223372036854775807) :
    Calls Try.prog 18 #[.string s, .slice an n cn, .slice av m cv, .int .i64 k] w fun e w' => Bud n m M e ∧ w' = w := by
  have H1 : Hid (IsStrs w an n cn S) := h1
  have H2 : Hid (IsMat w av m cv M) := h2
  have HN : Hid (∀ i, i < m → (M.N i : Int) ≤ 9223372036854775807) := hN
  clear h1 h2 hN
  by_cases a1 : 1048576 < s.size
  · go_enter Try.func18, Try.ntmps18
    go_wp2
    go_ret
    exact ⟨Bud.no, rfl⟩
  by_cases a2 : 1048576 < n
  · go_enter Try.func18, Try.ntmps18
    go_wp2
    go_ret
    exact ⟨Bud.no, rfl⟩
  by_cases a3 : 1048576 < s.size + n
  · go_enter Try.func18, Try.ntmps18
    go_wp2
    go_ret
    exact ⟨Bud.no, rfl⟩
  have t1 : decide ((1048576 : Int) < (s.size : Int)) = false := decide_eq_false (by omega)
  have t2 : decide ((1048576 : Int) < (n : Int)) = false := decide_eq_false (by omega)
  have t3 : decide ((1048576 : Int) < (s.size : Int) + (n : Int)) = false := decide_eq_false (by omega)
  go_enter Try.func18, Try.ntmps18
  go_wp2
  go_loop [9, 10] (fun vz vk => ∃ (k : Nat) (z : Int), k ≤ n ∧ vk = .int .i64 k ∧ vz = .int .i64 z ∧ 0 ≤ z ∧ z ≤ 1048576) (fun _ vk => n - (intOf vk).toNat)
  case atStart => exact ⟨0, (s.size : Int) + n, Nat.zero_le _, rfl, rfl, by omega, by omega⟩
  case round =>
    obtain ⟨i, z, hi, rfl, rfl, z0, z1⟩ := hrel
    by_cases hlt : i < n
    · obtain ⟨b, o, rfl, _, hc⟩ := H1.out.loc (by omega)
      obtain ⟨u, hu⟩ : ∃ u, S i = u := ⟨_, rfl⟩
      have g := hc i hlt
      rw [hu] at g
      clear hu hc
      by_cases b1 : 1048576 < u.size
      · go_wp2
        go_ret
        exact ⟨Bud.no, rfl⟩
      by_cases b2 : 1048576 < z + u.size
      · go_wp2
        go_ret
        exact ⟨Bud.no, rfl⟩
      · go_wp2
        go_round
        case rel => exact ⟨i + 1, z + u.size, by omega, by go_num, by go_num, by omega, by omega⟩
        case measure => simp [intOf]; omega
    · by_cases a4 : 1048576 < m
      · go_wp2
        go_ret
        exact ⟨Bud.no, rfl⟩
      by_cases a5 : 1048576 < z + m
      · go_wp2
        go_ret
        exact ⟨Bud.no, rfl⟩
      have t4 : decide ((1048576 : Int) < (m : Int)) = false := decide_eq_false (by omega)
      have t5 : decide ((1048576 : Int) < z + (m : Int)) = false := decide_eq_false (by omega)
      go_wp2
      go_loop [9, 11] (fun vz vj => ∃ (j : Nat) (y : Int), j ≤ m ∧ vj = .int .i64 j ∧ vz = .int .i64 y ∧ 0 ≤ y ∧ y ≤ 1048576 ∧ Hid (∀ i, i < j → M.N i ≤ 1048576)) (fun _ vj => m - (intOf vj).toNat)
      case atStart => exact ⟨0, z + m, Nat.zero_le _, rfl, rfl, by omega, by omega, fun i h => absurd h (Nat.not_lt_zero _)⟩
      case round =>
        obtain ⟨j, y, hj, rfl, rfl, y0, y1, HJ⟩ := hrel
        by_cases hlt2 : j < m
        · obtain ⟨b, o, rfl, _, hc⟩ := H2.out.loc (by omega)
          obtain ⟨g, hS⟩ := hc j hlt2
          have hNj := HN.out j hlt2
          have HSj : Hid (IsStrs w (M.A j) (M.N j) (M.C j) (M.S j)) := hS
          obtain ⟨q, hq⟩ : ∃ q, M.N j = q := ⟨_, rfl⟩
          rw [hq] at g hNj HSj
          have HJ2 : q ≤ 1048576 → Hid (∀ i, i < j + 1 → M.N i ≤ 1048576) := fun hle i hi => by
            by_cases e : i = j
            · rw [e, hq]; exact hle
            · exact HJ.out i (by omega)
          clear hc hS hq
          by_cases b1 : 1048576 < q
          · go_wp2
            go_ret
            exact ⟨Bud.no, rfl⟩
          by_cases b2 : 1048576 < y + q
          · go_wp2
            go_ret
            exact ⟨Bud.no, rfl⟩
          have HJ3 := HJ2 (by omega)
          clear HJ2 HJ
          have t6 : decide ((1048576 : Int) < (q : Int)) = false := decide_eq_false (by omega)
          have t7 : decide ((1048576 : Int) < y + (q : Int)) = false := decide_eq_false (by omega)
          go_wp2
          go_loop [9, 12] (fun vz vp => ∃ (p : Nat) (x : Int), p ≤ q ∧ vp = .int .i64 p ∧ vz = .int .i64 x ∧ 0 ≤ x ∧ x ≤ 1048576) (fun _ vp => q - (intOf vp).toNat)
          case atStart => exact ⟨0, y + q, Nat.zero_le _, rfl, rfl, by omega, by omega⟩
          case round =>
            obtain ⟨p, x, hp, rfl, rfl, x0, x1⟩ := hrel
            by_cases hlt3 : p < q
            · obtain ⟨b', o', hA, _, hc'⟩ := HSj.out.loc (by omega)
              rw [hA] at g
              obtain ⟨u, hu⟩ : ∃ u, M.S j p = u := ⟨_, rfl⟩
              have g' := hc' p hlt3
              rw [hu] at g'
              clear hu hc' hA
              by_cases d1 : 1048576 < u.size
              · go_wp2
                go_ret
                exact ⟨Bud.no, rfl⟩
              by_cases d2 : 1048576 < x + u.size
              · go_wp2
                go_ret
                exact ⟨Bud.no, rfl⟩
              · go_wp2
                go_round
                case rel => exact ⟨p + 1, x + u.size, by omega, by go_num, by go_num, by omega, by omega⟩
                case measure => simp [intOf]; omega
            · go_wp2
              go_round
              case rel => exact ⟨j + 1, x, by omega, by go_num, by go_num, by omega, by omega, HJ3⟩
              case measure => simp [intOf]; omega
        · go_wp2
          go_ret
          exact ⟨⟨true, rfl, fun _ => ⟨by omega, by omega, fun i hi => HJ.out i (by omega)⟩⟩, rfl⟩
end Go.Proofs.Qxb6613783a
