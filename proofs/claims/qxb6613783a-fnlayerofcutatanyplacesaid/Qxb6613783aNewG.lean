/-
  ZZnewStringFeature once more, with where the fields lie: in a block of the call's own.
-/
import Derived.Test.Qxb6613783aNewF
namespace Go.Proofs.Qxb6613783a
open Go.RowKit

/-- At ⟨b, off⟩ lies a feature of n fields, each a String, in a block from lo on. -/
def FeatF (w : World) (lo b off n : Nat) : Prop :=
  ∃ a c, w.cell? ⟨b, off, none⟩ = some (.slice a n c) ∧ b < w.heap.size ∧ (0 < n → ∃ g, a = some ⟨g, 0, none⟩ ∧ lo ≤ g ∧ g < w.heap.size ∧ ∀ j, j < n → ∃ s, w.cell? ⟨g, j, none⟩ = some (.iface 69 (.string s)))

theorem FeatF.feat {w : World} {lo b off n : Nat} (h : FeatF w lo b off n) : Feat w b off n := by
  obtain ⟨a, c, h1, h2, h3⟩ := h
  exact ⟨a, c, h1, h2, fun hp => by obtain ⟨g, e, _, hg, hc⟩ := h3 hp; exact ⟨g, e, hg, hc⟩⟩
theorem FeatF.down {w : World} {lo lo' b off n : Nat} (h : FeatF w lo b off n) (hl : lo' ≤ lo) : FeatF w lo' b off n := by
  obtain ⟨a, c, h1, h2, h3⟩ := h
  exact ⟨a, c, h1, h2, fun hp => by obtain ⟨g, e, hlo, hg, hc⟩ := h3 hp; exact ⟨g, e, Nat.le_trans hl hlo, hg, hc⟩⟩
theorem FeatF.below {w w' : World} {lo b off n : Nat} (h : FeatF w lo b off n) (hb : Below w.heap.size w w') : FeatF w' lo b off n := by
  obtain ⟨a, c, h1, h2, h3⟩ := h
  refine ⟨a, c, (hb.cell (p := ⟨b, off, none⟩) h2).trans h1, Nat.lt_of_lt_of_le h2 hb.size, fun hp => ?_⟩
  obtain ⟨g, e, hlo, hg, hc⟩ := h3 hp
  refine ⟨g, e, hlo, Nat.lt_of_lt_of_le hg hb.size, fun j hj => ?_⟩
  obtain ⟨s, hs⟩ := hc j hj
  exact ⟨s, (hb.cell (p := ⟨g, j, none⟩) hg).trans hs⟩

set_option maxHeartbeats 1000000 in
theorem newG_some (b o n c : Nat) (S : Nat → ByteArray) (hn : n ≤ 1048576) (w : World) (hb : b < w.heap.size) (hc : Cells w b o n S) :
    Calls Try.prog 10 #[.slice (some ⟨b, o, none⟩) n c] w fun e w' => ∃ f, e = .returned (.pointer (some ⟨f, 0, none⟩)) ∧ w.heap.size ≤ f ∧ FeatF w' w.heap.size f 0 n ∧ Below w.heap.size w w' := by
  have q22 : ∀ (w : World) (a : Option Addr) (n c n' c' : Nat), (binOp .eql 22 (.slice a n c) (.slice none n' c')).run Try.prog w = .ok (.bool a.isNone) w := fun w a n c n' c' => Lib.run_eql_slice_nil w _ _ a n c n' c' Try.underlying22
  obtain ⟨i0, hi, hz0, hz1, hz2⟩ := info_parts Try.info71
  have HC : Hid (Cells w b o n S) := hc
  clear hc
  go_enter Try.func10, Try.ntmps10
  go_wp2_with (at_make; refine wpList_make_full _ rfl _ _ 64 rfl w.heap.size 71 i0 _ 1 Try.under64 hi hz0 hz1 .i64 .i64 n n n rfl rfl rfl rfl ?_ ?_ (Nat.le_refl _) ?_; rotate_right; intro w1 hown1 hgrow1)
  case refine_1 => rw [hz2]; omega
  case refine_2 => unfold maxLen; omega
  have HB1 : Hid (Below w.heap.size w w1) := (Below.refl _ _).grown hgrow1 (Nat.le_refl _) (fun k e => by cases e)
  have HO1 : Hid (w1.ownsRow w.heap.size 71 1 (.slice (some ⟨w.heap.size, 0, none⟩) n n) n (madeCells Value.nilIface.cells (n * 1)).toList) := hown1
  clear hown1 hgrow1 hi hz0 hz1 hz2 q22
  go_loopw [4] (fun v wr => ∃ (k : Nat) (xs : List Value), k ≤ n ∧ v = .int .i64 k ∧ Hid (wr.ownsRow w.heap.size 71 1 (.slice (some ⟨w.heap.size, 0, none⟩) n n) n xs) ∧ Hid (∀ j, j < k → xs[j]? = some (.iface 69 (.string (S j)))) ∧ Hid (Below w.heap.size w wr)) (fun v _ => n - (intOf v).toNat)
  case atStart => exact ⟨0, _, Nat.zero_le _, rfl, HO1, fun j h => absurd h (Nat.not_lt_zero _), HB1⟩
  case round =>
    clear HO1 HB1
    obtain ⟨k, xs, hk, rfl, HO, HX, HB⟩ := hrel
    by_cases hlt : k < n
    · obtain ⟨s, hs⟩ : ∃ s, S k = s := ⟨_, rfl⟩
      have gx : wr.cell? ⟨b, o + k, none⟩ = some (.string s) := by rw [← hs]; exact (HB.out.cell (p := ⟨b, o + k, none⟩) hb).trans (HC.out k hlt)
      have hlen : xs.length = n * 1 := HO.out.1
      have f0 := HO.out.frozenAt k
      obtain ⟨u0, hu0⟩ : ∃ u, wr.cell? ⟨w.heap.size, k, none⟩ = some u := by
        rw [HO.out.cellAt k (by omega)]; exact ⟨_, List.getElem?_eq_getElem (by omega)⟩
      have R := filled (V := fun j => .iface 69 (.string (S j))) HO.out HX.out hlt HB.out
      rw [hs] at R
      clear HO HX HB hs
      obtain ⟨R1, R2, R3⟩ := R
      go_wp2
      go_roundw
      case rel => exact ⟨k + 1, _, by omega, by go_num, R1, R2, R3⟩
      case measure => simp [intOf]; omega
    · have HF : Hid (∀ j, j < n → ∃ s, wr.cell? ⟨w.heap.size, j, none⟩ = some (.iface 69 (.string s))) := fun j hj => ⟨S j, by rw [HO.out.cellAt j (by omega)]; exact HX.out j (by omega)⟩
      have hlt2 := (HO.out.lt _ rfl).2
      have hsz := HB.out.size
      clear HO HX
      go_wp2
      go_ret
      have bl : Below wr.heap.size wr (wr.alloc (.cells #[.slice (some ⟨w.heap.size, 0, none⟩) n n] 66)) := (Below.refl _ _).alloc (Nat.le_refl _) _
      refine ⟨wr.heap.size, rfl, hsz, ⟨some ⟨w.heap.size, 0, none⟩, n, by simp, by simp, fun _ => ⟨w.heap.size, rfl, Nat.le_refl _, by simp; omega, fun j hj => ?_⟩⟩, HB.out.alloc hsz _⟩
      obtain ⟨s, hs⟩ := HF.out j hj
      exact ⟨s, (bl.cell (p := ⟨w.heap.size, j, none⟩) hlt2).trans hs⟩


theorem newG_any (a : Option Addr) (n c : Nat) (S : Nat → ByteArray) (hn : n ≤ 1048576) (w : World) (h : IsStrs w a n c S) :
    Calls Try.prog 10 #[.slice a n c] w fun e w' => ∃ f, e = .returned (.pointer (some ⟨f, 0, none⟩)) ∧ w.heap.size ≤ f ∧ FeatF w' w.heap.size f 0 n ∧ Below w.heap.size w w' := by
  have up : ∀ {w' : World} {f : Nat}, Feat w' f 0 0 → FeatF w' w.heap.size f 0 0 := fun h => by
    obtain ⟨a, c, h1, h2, _⟩ := h
    exact ⟨a, c, h1, h2, fun hp => absurd hp (Nat.lt_irrefl _)⟩
  rcases h with ⟨rfl, rfl, rfl⟩ | ⟨x, rfl, h⟩
  · refine (newF_nil w).mono ?_
    rintro e w' ⟨f, rfl, h1, h2, h3⟩
    exact ⟨f, rfl, h1, up h2, h3⟩
  · by_cases hp : 0 < n
    · obtain ⟨b, o, rfl, hlt, hc⟩ := h hp
      exact newG_some b o n c S hn w hlt hc
    · obtain rfl : n = 0 := by omega
      refine (newF_zero x c w).mono ?_
      rintro e w' ⟨f, rfl, h1, h2, h3⟩
      exact ⟨f, rfl, h1, up h2, h3⟩
end Go.Proofs.Qxb6613783a
