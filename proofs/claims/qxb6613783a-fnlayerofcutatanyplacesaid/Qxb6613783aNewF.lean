/-
  THE WALK of ZZnewStringFeature.
-/
import Derived.Test.Qxb6613783aTags
import Derived.Lib.SliceRun
namespace Go.Proofs.Qxb6613783a
open Go.RowKit

set_option maxHeartbeats 400000 in
theorem newF_nil (w : World) :
    Calls Try.prog 10 #[.slice none 0 0] w fun e w' => ∃ f, e = .returned (.pointer (some ⟨f, 0, none⟩)) ∧ w.heap.size ≤ f ∧ Feat w' f 0 0 ∧ Below w.heap.size w w' := by
  have q22 : ∀ (w : World) (a : Option Addr) (n c n' c' : Nat), (binOp .eql 22 (.slice a n c) (.slice none n' c')).run Try.prog w = .ok (.bool a.isNone) w := fun w a n c n' c' => Lib.run_eql_slice_nil w _ _ a n c n' c' Try.underlying22
  go_enter Try.func10, Try.ntmps10
  go_wp2
  go_ret
  exact ⟨w.heap.size, rfl, Nat.le_refl _, ⟨none, 0, by simp, by simp, fun h => by omega⟩, (Below.refl _ _).alloc (Nat.le_refl _) _⟩

set_option maxHeartbeats 400000 in
theorem newF_zero (x : Addr) (c : Nat) (w : World) :
    Calls Try.prog 10 #[.slice (some x) 0 c] w fun e w' => ∃ f, e = .returned (.pointer (some ⟨f, 0, none⟩)) ∧ w.heap.size ≤ f ∧ Feat w' f 0 0 ∧ Below w.heap.size w w' := by
  have q22 : ∀ (w : World) (a : Option Addr) (n c n' c' : Nat), (binOp .eql 22 (.slice a n c) (.slice none n' c')).run Try.prog w = .ok (.bool a.isNone) w := fun w a n c n' c' => Lib.run_eql_slice_nil w _ _ a n c n' c' Try.underlying22
  obtain ⟨i0, hi, hz0, hz1, hz2⟩ := info_parts Try.info71
  go_enter Try.func10, Try.ntmps10
  go_wp2_with (at_make; refine wpList_make_full _ rfl _ _ 64 rfl w.heap.size 71 i0 _ 1 Try.under64 hi hz0 hz1 .i64 .i64 0 0 0 rfl rfl rfl rfl ?_ ?_ (Nat.le_refl _) ?_; rotate_right; intro w1 hown1 hgrow1)
  case refine_1 => rw [hz2]; omega
  case refine_2 => unfold maxLen; omega
  have HB1 : Hid (Below w.heap.size w w1) := (Below.refl _ _).grown hgrow1 (Nat.le_refl _) (fun k e => by cases e)
  clear hown1 hgrow1
  refine wp_loop_rounds 1 ?_
  rw [rounds_succ]
  go_wp2
  go_ret
  exact ⟨w1.heap.size, rfl, HB1.out.size, ⟨_, _, by simp; exact ⟨rfl, rfl⟩, by simp, fun h => by omega⟩, HB1.out.alloc HB1.out.size _⟩

set_option maxHeartbeats 1000000 in
theorem newF_some (b o n c : Nat) (S : Nat → ByteArray) (hn : n ≤ 1048576) (w : World) (hb : b < w.heap.size) (hc : Cells w b o n S) :
    Calls Try.prog 10 #[.slice (some ⟨b, o, none⟩) n c] w fun e w' => ∃ f, e = .returned (.pointer (some ⟨f, 0, none⟩)) ∧ w.heap.size ≤ f ∧ Feat w' f 0 n ∧ Below w.heap.size w w' := by
  have q22 : ∀ (w : World) (a : Option Addr) (n c n' c' : Nat), (binOp .eql 22 (.slice a n c) (.slice none n' c')).run Try.prog w = .ok (.bool a.isNone) w := fun w a n c n' c' => Lib.run_eql_slice_nil w _ _ a n c n' c' Try.underlying22
  obtain ⟨i0, hi, hz0, hz1, hz2⟩ := info_parts Try.info71
  have HC : Hid (Cells w b o n S) := hc
  clear hc
  go_enter Try.func10, Try.ntmps10
  go_wp2_with (at_make; refine wpList_make_full _ rfl _ _ 64 rfl w.heap.size 71 i0 _ 1 Try.under64 hi hz0 hz1 .i64 .i64 n n n rfl rfl rfl rfl ?_ ?_ (Nat.le_refl _) ?_; rotate_right; intro w1 hown1 hgrow1)
  case refine_1 => rw [hz2]; omega
  case refine_2 => unfold maxLen; omega
  have HB1 : Hid (Below w.heap.size w w1) := (Below.refl _ _).grown hgrow1 (Nat.le_refl _) (fun k e => by cases e)
  have HO1 : Hid (w1.ownsRow w.heap.size 71 1 (.slice (some ⟨w.heap.size, 0, none⟩) n n) n (madeCells Value.nilIface.cells (n * 1)).toList) := hown1
  clear hown1 hgrow1 hi hz0 hz1 hz2 q22
  go_loopw [4] (fun v wr => ∃ (k : Nat) (xs : List Value), k ≤ n ∧ v = .int .i64 k ∧ Hid (wr.ownsRow w.heap.size 71 1 (.slice (some ⟨w.heap.size, 0, none⟩) n n) n xs) ∧ Hid (∀ j, j < k → xs[j]? = some (.iface 69 (.string (S j)))) ∧ Hid (Below w.heap.size w wr)) (fun v _ => n - (intOf v).toNat)
  case atStart => exact ⟨0, _, Nat.zero_le _, rfl, HO1, fun j h => absurd h (Nat.not_lt_zero _), HB1⟩
  case round =>
    clear HO1 HB1
    obtain ⟨k, xs, hk, rfl, HO, HX, HB⟩ := hrel
    by_cases hlt : k < n
    · obtain ⟨s, hs⟩ : ∃ s, S k = s := ⟨_, rfl⟩
      have gx : wr.cell? ⟨b, o + k, none⟩ = some (.string s) := by rw [← hs]; exact (HB.out.cell (p := ⟨b, o + k, none⟩) hb).trans (HC.out k hlt)
      have hlen : xs.length = n * 1 := HO.out.1
      have f0 := HO.out.frozenAt k
      obtain ⟨u0, hu0⟩ : ∃ u, wr.cell? ⟨w.heap.size, k, none⟩ = some u := by
        rw [HO.out.cellAt k (by omega)]; exact ⟨_, List.getElem?_eq_getElem (by omega)⟩
      have R := filled (V := fun j => .iface 69 (.string (S j))) HO.out HX.out hlt HB.out
      rw [hs] at R
      clear HO HX HB hs
      obtain ⟨R1, R2, R3⟩ := R
      go_wp2
      go_roundw
      case rel => exact ⟨k + 1, _, by omega, by go_num, R1, R2, R3⟩
      case measure => simp [intOf]; omega
    · have HF : Hid (∀ j, j < n → ∃ s, wr.cell? ⟨w.heap.size, j, none⟩ = some (.iface 69 (.string s))) := fun j hj => ⟨S j, by rw [HO.out.cellAt j (by omega)]; exact HX.out j (by omega)⟩
      have hlt2 := (HO.out.lt _ rfl).2
      have hsz := HB.out.size
      clear HO HX
      go_wp2
      go_ret
      have bl : Below wr.heap.size wr (wr.alloc (.cells #[.slice (some ⟨w.heap.size, 0, none⟩) n n] 66)) := (Below.refl _ _).alloc (Nat.le_refl _) _
      refine ⟨wr.heap.size, rfl, hsz, ⟨some ⟨w.heap.size, 0, none⟩, n, by simp, by simp, fun _ => ⟨w.heap.size, rfl, by simp; omega, fun j hj => ?_⟩⟩, HB.out.alloc hsz _⟩
      obtain ⟨s, hs⟩ := HF.out j hj
      exact ⟨s, (bl.cell (p := ⟨w.heap.size, j, none⟩) hlt2).trans hs⟩

/-- What a slice of strings is, where it came from outside or was made: nil; or an address at which, if it has an element, the strings lie. -/
def IsStrs (w : World) (a : Option Addr) (n c : Nat) (S : Nat → ByteArray) : Prop :=
  (a = none ∧ n = 0 ∧ c = 0) ∨ ∃ x, a = some x ∧ (0 < n → ∃ b o, x = ⟨b, o, none⟩ ∧ b < w.heap.size ∧ Cells w b o n S)

theorem IsStrs.below {w w' : World} {a : Option Addr} {n c : Nat} {S : Nat → ByteArray} (h : IsStrs w a n c S) (hb : Below w.heap.size w w') : IsStrs w' a n c S := by
  rcases h with h | ⟨x, rfl, h⟩
  · exact .inl h
  · refine .inr ⟨x, rfl, fun hp => ?_⟩
    obtain ⟨b, o, rfl, hlt, hc⟩ := h hp
    exact ⟨b, o, rfl, Nat.lt_of_lt_of_le hlt hb.size, fun k hk => (hb.cell (p := ⟨b, o + k, none⟩) hlt).trans (hc k hk)⟩

/-- ZZnewStringFeature, at whatever slice of strings: a feature of as many String fields, in memory of its own. -/
theorem newF_any (a : Option Addr) (n c : Nat) (S : Nat → ByteArray) (hn : n ≤ 1048576) (w : World) (h : IsStrs w a n c S) :
    Calls Try.prog 10 #[.slice a n c] w fun e w' => ∃ f, e = .returned (.pointer (some ⟨f, 0, none⟩)) ∧ w.heap.size ≤ f ∧ Feat w' f 0 n ∧ Below w.heap.size w w' := by
  rcases h with ⟨rfl, rfl, rfl⟩ | ⟨x, rfl, h⟩
  · exact newF_nil w
  · by_cases hp : 0 < n
    · obtain ⟨b, o, rfl, hlt, hc⟩ := h hp
      exact newF_some b o n c S hn w hlt hc
    · obtain rfl : n = 0 := by omega
      exact newF_zero x c w

theorem zb8_all (a : Option Addr) (n c : Nat) (S : Nat → ByteArray) (hn : n ≤ 1048576) (w : World) (h : IsStrs w a n c S) :
    Calls Try.prog 8 #[.slice a n c] w fun e w' => IsBool e ∧ w' = w := by
  by_cases hp : 0 < n
  · rcases h with ⟨rfl, rfl, rfl⟩ | ⟨x, rfl, h⟩
    · omega
    · obtain ⟨b, o, rfl, hlt, hc⟩ := h hp
      exact zb8_any b o n c S hn w hc
  · obtain rfl : n = 0 := by omega
    refine (zb8_nil a c w).mono ?_
    rintro e w' ⟨rfl, rfl⟩
    exact ⟨⟨_, rfl⟩, rfl⟩

theorem sb_all (a : Option Addr) (n c : Nat) (S : Nat → ByteArray) (hn : n ≤ 1048576) (bud : Int) (hb0 : 0 ≤ bud) (hb1 : bud ≤ 1048576) (w : World) (h : IsStrs w a n c S) :
    Calls Try.prog 9 #[.slice a n c, .int .i64 bud] w fun e w' => IsInt 0 3145728 e ∧ w' = w := by
  by_cases hp : 0 < n
  · rcases h with ⟨rfl, rfl, rfl⟩ | ⟨x, rfl, h⟩
    · omega
    · obtain ⟨b, o, rfl, hlt, hc⟩ := h hp
      exact sb_any b o n c S hn bud hb0 hb1 w hc
  · obtain rfl : n = 0 := by omega
    refine (sb_nil a c bud w).mono ?_
    rintro e w' ⟨rfl, rfl⟩
    exact ⟨⟨_, rfl, by omega, by omega⟩, rfl⟩
end Go.Proofs.Qxb6613783a
