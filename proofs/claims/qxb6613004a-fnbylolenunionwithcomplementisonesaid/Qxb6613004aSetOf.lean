/-
  THE WALK of zzSetOf.
-/
import Derived.Test.Qxb6613004aNorm
import Derived.Deep.RegionHeld3
namespace Go.Proofs.Qxb6613004a
open Go.RowKit

theorem Try.info40 : (Try.prog.info? 40).map (fun i => (i.zero, i.size, i.bytes)) = some (some (.agg #[.int .i32 0, .int .i32 0]), 2, 8) := by kernel_rfl
theorem Try.under34 : Try.prog.underlying 34 = some (.slice 40) := by kernel_rfl

/-- A round of zzSetOf: the k-th pair is stored. -/
theorem pair_stored {w wr : World} {n k : Nat} {xs : List Value} {L H : Nat → Int} {x y : Int} (HO : wr.ownsRow w.heap.size 40 2 (.slice (some ⟨w.heap.size, 0, none⟩) n n) n xs)
    (HX : ∀ j, j < k → xs[j * 2]? = some (.int .i32 (L j)) ∧ xs[j * 2 + 1]? = some (.int .i32 (H j))) (hk : k < n) (hx : L k = x) (hy : H k = y) (HB : Below w.heap.size w wr) :
    Hid (((wr.setCell ⟨w.heap.size, k * 2, none⟩ (.int .i32 x)).setCell ⟨w.heap.size, k * 2 + 1, none⟩ (.int .i32 y)).drew.ownsRow w.heap.size 40 2 (.slice (some ⟨w.heap.size, 0, none⟩) n n) n ((xs.set (k * 2) (.int .i32 x)).set (k * 2 + 1) (.int .i32 y))) ∧
    Hid (∀ j, j < k + 1 → ((xs.set (k * 2) (.int .i32 x)).set (k * 2 + 1) (.int .i32 y))[j * 2]? = some (.int .i32 (L j)) ∧ ((xs.set (k * 2) (.int .i32 x)).set (k * 2 + 1) (.int .i32 y))[j * 2 + 1]? = some (.int .i32 (H j))) ∧
    Hid (Below w.heap.size w ((wr.setCell ⟨w.heap.size, k * 2, none⟩ (.int .i32 x)).setCell ⟨w.heap.size, k * 2 + 1, none⟩ (.int .i32 y)).drew) := by
  have hlen : xs.length = n * 2 := HO.1
  refine ⟨((HO.stored (k * 2) _).1.stored (k * 2 + 1) _).1.drew, ?_, ((HB.setCell (p := ⟨w.heap.size, k * 2, none⟩) (Nat.le_refl _) _).setCell (p := ⟨w.heap.size, k * 2 + 1, none⟩) (Nat.le_refl _) _).drew⟩
  intro j hj
  by_cases e : j = k
  · subst e
    constructor
    · rw [List.getElem?_set_ne (by omega), List.getElem?_set_self (by omega), hx]
    · rw [List.getElem?_set_self (by simp; omega), hy]
  · have := HX j (by omega)
    constructor
    · rw [List.getElem?_set_ne (by omega), List.getElem?_set_ne (by omega)]; exact this.1
    · rw [List.getElem?_set_ne (by omega), List.getElem?_set_ne (by omega)]; exact this.2

set_option maxHeartbeats 1000000 in
theorem setOf_any (b0 o0 b1 o1 n c0 c1 : Nat) (L H : Nat → Int) (hn : n ≤ 65536) (w : World)
    (hc0 : ∀ k, k < n → w.cell? ⟨b0, o0 + k, none⟩ = some (.int .i32 (L k))) (hc1 : ∀ k, k < n → w.cell? ⟨b1, o1 + k, none⟩ = some (.int .i32 (H k)))
    (hb0 : b0 < w.heap.size) (hb1 : b1 < w.heap.size) :
    Calls Try.prog 20 #[.slice (some ⟨b0, o0, none⟩) n c0, .slice (some ⟨b1, o1, none⟩) n c1] w fun e w' => ∃ xs, e = .returned (.slice (some ⟨w.heap.size, 0, none⟩) n n) ∧
      w'.ownsRow w.heap.size 40 2 (.slice (some ⟨w.heap.size, 0, none⟩) n n) n xs ∧ (∀ j, j < n → xs[j * 2]? = some (.int .i32 (L j)) ∧ xs[j * 2 + 1]? = some (.int .i32 (H j))) ∧ Below w.heap.size w w' := by
  obtain ⟨i0, hi, hz0, hz1, hz2⟩ := info_parts Try.info40
  have HC0 : Hid (∀ k, k < n → w.cell? ⟨b0, o0 + k, none⟩ = some (.int .i32 (L k))) := hc0
  have HC1 : Hid (∀ k, k < n → w.cell? ⟨b1, o1 + k, none⟩ = some (.int .i32 (H k))) := hc1
  clear hc0 hc1
  go_enter Try.func20, Try.ntmps20
  go_wp2_with (at_make; refine wpList_make_full _ rfl _ _ 34 rfl w.heap.size 40 i0 _ 2 Try.under34 hi hz0 hz1 .i64 .i64 n n n rfl rfl rfl rfl ?_ ?_ (Nat.le_refl _) ?_; rotate_right; intro w1 hown1 hgrow1)
  case refine_1 => rw [hz2]; omega
  case refine_2 => unfold maxLen; omega
  have HB1 : Hid (Below w.heap.size w w1) := (Below.refl _ _).grown hgrow1 (Nat.le_refl _) (fun k e => by cases e)
  have HO1 : Hid (w1.ownsRow w.heap.size 40 2 (.slice (some ⟨w.heap.size, 0, none⟩) n n) n (madeCells (Value.agg #[.int .i32 0, .int .i32 0]).cells (n * 2)).toList) := hown1
  clear hown1 hgrow1 hi hz0 hz1 hz2
  go_loopw [6] (fun v wr => ∃ (k : Nat) (xs : List Value), k ≤ n ∧ v = .int .i64 k ∧ Hid (wr.ownsRow w.heap.size 40 2 (.slice (some ⟨w.heap.size, 0, none⟩) n n) n xs) ∧ Hid (∀ j, j < k → xs[j * 2]? = some (.int .i32 (L j)) ∧ xs[j * 2 + 1]? = some (.int .i32 (H j))) ∧ Hid (Below w.heap.size w wr)) (fun v _ => n - (intOf v).toNat)
  case atStart => exact ⟨0, _, Nat.zero_le _, rfl, HO1, fun j h => absurd h (Nat.not_lt_zero _), HB1⟩
  case round =>
    clear HO1 HB1
    obtain ⟨k, xs, hk, rfl, HO, HX, HB⟩ := hrel
    by_cases hlt : k < n
    · obtain ⟨x, hx⟩ : ∃ x, L k = x := ⟨_, rfl⟩
      obtain ⟨y, hy⟩ : ∃ y, H k = y := ⟨_, rfl⟩
      have gx : wr.cell? ⟨b0, o0 + k, none⟩ = some (.int .i32 x) := by rw [← hx]; exact (HB.out.cell (p := ⟨b0, o0 + k, none⟩) hb0).trans (HC0.out k hlt)
      have gy : wr.cell? ⟨b1, o1 + k, none⟩ = some (.int .i32 y) := by rw [← hy]; exact (HB.out.cell (p := ⟨b1, o1 + k, none⟩) hb1).trans (HC1.out k hlt)
      have HXX : Hid (L k = x) := hx
      have HYY : Hid (H k = y) := hy
      have f0 := HO.out.frozenAt (k * 2)
      have f1 := HO.out.frozenAt (k * 2 + 1)
      clear hx hy
      have hlen : xs.length = n * 2 := HO.out.1
      obtain ⟨u0, hu0⟩ : ∃ u, wr.cell? ⟨w.heap.size, k * 2, none⟩ = some u := by
        rw [HO.out.cellAt (k * 2) (by omega)]; exact ⟨_, List.getElem?_eq_getElem (by omega)⟩
      obtain ⟨u1, hu1⟩ : ∃ u, wr.cell? ⟨w.heap.size, k * 2 + 1, none⟩ = some u := by
        rw [HO.out.cellAt (k * 2 + 1) (by omega)]; exact ⟨_, List.getElem?_eq_getElem (by omega)⟩
      have R := pair_stored HO.out HX.out hlt HXX.out HYY.out HB.out
      clear hlen
      go_wp2_with fail
      go_region
      go_wp2
      go_roundw
      case rel => exact ⟨k + 1, _, by omega, by go_num, R.1, R.2.1, R.2.2⟩
      case measure => simp [intOf]; omega
    · go_wp2
      go_ret
      exact ⟨xs, rfl, HO.out, fun j hj => HX.out j (by omega), HB.out⟩
end Go.Proofs.Qxb6613004a
