/-
  THE WALKS of the bounds on the arguments (zzBytes.., zzStringsBytes).
-/
import Derived.Test.Qxb6613783aRows
import Derived.WalkKit
import Derived.WalkSpells
import Derived.WalkLawsBesides
namespace Go.Proofs.Qxb6613783a
open Go.RowKit

/-- It answers a bool. -/
def IsBool (e : Ending) : Prop := ∃ r, e = .returned (.bool r)
/-- It answers an int from lo to hi. -/
def IsInt (lo hi : Int) (e : Ending) : Prop := ∃ r, e = .returned (.int .i64 r) ∧ lo ≤ r ∧ r ≤ hi

/-- The cells of a slice of strings. -/
def Cells (w : World) (b o n : Nat) (S : Nat → ByteArray) : Prop := ∀ k, k < n → w.cell? ⟨b, o + k, none⟩ = some (.string (S k))

set_option maxHeartbeats 400000 in
theorem zb8_big (a : Option Addr) (n c : Nat) (h : 1048576 < n) (h1 : (n : Int) ≤ 9223372036854775807) (w : World) :
    Calls Try.prog 8 #[.slice a n c] w fun e w' => e = .returned (.bool false) ∧ w' = w := by
  go_enter Try.func8, Try.ntmps8
  go_wp2
  go_ret
  exact ⟨rfl, rfl⟩
set_option maxHeartbeats 400000 in
theorem zb8_nil (a : Option Addr) (c : Nat) (w : World) :
    Calls Try.prog 8 #[.slice a 0 c] w fun e w' => e = .returned (.bool true) ∧ w' = w := by
  go_enter Try.func8, Try.ntmps8
  go_wp2
  refine wp_loop_rounds 1 ?_
  rw [rounds_succ]
  go_wp2
  go_ret
  exact ⟨rfl, rfl⟩

set_option maxHeartbeats 1000000 in
theorem zb8_any (b o n c : Nat) (S : Nat → ByteArray) (hn : n ≤ 1048576) (w : World) (hc : Cells w b o n S) :
    Calls Try.prog 8 #[.slice (some ⟨b, o, none⟩) n c] w fun e w' => IsBool e ∧ w' = w := by
  have HC : Hid (Cells w b o n S) := hc
  clear hc
  have t0 : decide ((1048576 : Int) < (n : Int)) = false := decide_eq_false (by omega)
  go_enter Try.func8, Try.ntmps8
  go_wp2
  go_loop [3, 4] (fun vz vk => ∃ (k : Nat) (z : Int), k ≤ n ∧ vk = .int .i64 k ∧ vz = .int .i64 z ∧ 0 ≤ z ∧ z ≤ 1048576) (fun _ vk => n - (intOf vk).toNat)
  case atStart => exact ⟨0, n, Nat.zero_le _, rfl, rfl, by omega, by omega⟩
  case round =>
    obtain ⟨k, z, hk, rfl, rfl, z0, z1⟩ := hrel
    by_cases hlt : k < n
    · obtain ⟨s, hs⟩ : ∃ s, S k = s := ⟨_, rfl⟩
      have g := HC.out k hlt
      rw [hs] at g
      clear hs
      by_cases a1 : 1048576 < s.size
      · go_wp2
        go_ret
        exact ⟨⟨_, rfl⟩, rfl⟩
      · by_cases a2 : 1048576 < z + s.size
        · go_wp2
          go_ret
          exact ⟨⟨_, rfl⟩, rfl⟩
        · go_wp2
          go_round
          case rel => exact ⟨k + 1, z + s.size, by omega, by go_num, by go_num, by omega, by omega⟩
          case measure => simp [intOf]; omega
    · go_wp2
      go_ret
      exact ⟨⟨_, rfl⟩, rfl⟩

set_option maxHeartbeats 400000 in
theorem sb_nil (a : Option Addr) (c : Nat) (bud : Int) (w : World) :
    Calls Try.prog 9 #[.slice a 0 c, .int .i64 bud] w fun e w' => e = .returned (.int .i64 0) ∧ w' = w := by
  go_enter Try.func9, Try.ntmps9
  go_wp2
  refine wp_loop_rounds 1 ?_
  rw [rounds_succ]
  go_wp2
  go_ret
  exact ⟨rfl, rfl⟩

set_option maxHeartbeats 1000000 in
theorem sb_any (b o n c : Nat) (S : Nat → ByteArray) (hn : n ≤ 1048576) (bud : Int) (hb0 : 0 ≤ bud) (hb1 : bud ≤ 1048576) (w : World) (hc : Cells w b o n S) :
    Calls Try.prog 9 #[.slice (some ⟨b, o, none⟩) n c, .int .i64 bud] w fun e w' => IsInt 0 3145728 e ∧ w' = w := by
  have HC : Hid (Cells w b o n S) := hc
  clear hc
  go_enter Try.func9, Try.ntmps9
  go_wp2
  go_loop [5, 6] (fun vz vk => ∃ (k : Nat) (z : Int), k ≤ n ∧ vk = .int .i64 k ∧ vz = .int .i64 z ∧ 0 ≤ z ∧ z ≤ bud) (fun _ vk => n - (intOf vk).toNat)
  case atStart => exact ⟨0, 0, Nat.zero_le _, rfl, rfl, by omega, by omega⟩
  case round =>
    obtain ⟨k, z, hk, rfl, rfl, z0, z1⟩ := hrel
    by_cases hlt : k < n
    · obtain ⟨s, hs⟩ : ∃ s, S k = s := ⟨_, rfl⟩
      have g := HC.out k hlt
      rw [hs] at g
      clear hs
      by_cases a1 : bud < s.size
      · go_wp2
        go_ret
        exact ⟨⟨_, rfl, by omega, by omega⟩, rfl⟩
      · by_cases a2 : bud < z + (16 + s.size)
        · go_wp2
          go_ret
          exact ⟨⟨_, rfl, by omega, by omega⟩, rfl⟩
        · go_wp2
          go_round
          case rel => exact ⟨k + 1, z + (16 + s.size), by omega, by go_num, by go_num, by omega, by omega⟩
          case measure => simp [intOf]; omega
    · go_wp2
      go_ret
      exact ⟨⟨_, rfl, by omega, by omega⟩, rfl⟩
end Go.Proofs.Qxb6613783a
