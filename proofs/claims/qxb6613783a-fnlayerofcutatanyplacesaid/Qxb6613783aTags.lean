/-
  THE WALK of (*Feature).Tags.
-/
import Derived.Test.Qxb6613783aStrs
namespace Go.Proofs.Qxb6613783a
open Go.RowKit

theorem Try.info29 : (Try.prog.info? 29).map (fun i => (i.zero, i.size, i.bytes)) = some (some (.int .u8 0), 1, 1) := by kernel_rfl
theorem Try.info71 : (Try.prog.info? 71).map (fun i => (i.zero, i.size, i.bytes)) = some (some .nilIface, 1, 16) := by kernel_rfl
theorem Try.info9 : (Try.prog.info? 9).map (fun i => (i.zero, i.size, i.bytes)) = some (some (.string ByteArray.empty), 1, 16) := by kernel_rfl
theorem Try.under27 : Try.prog.underlying 27 = some (.slice 29) := by kernel_rfl
theorem Try.under64 : Try.prog.underlying 64 = some (.slice 71) := by kernel_rfl

/-- At ⟨b, off⟩ lies a feature of n fields, each a String. -/
def Feat (w : World) (b off n : Nat) : Prop :=
  ∃ a c, w.cell? ⟨b, off, none⟩ = some (.slice a n c) ∧ b < w.heap.size ∧ (0 < n → ∃ g, a = some ⟨g, 0, none⟩ ∧ g < w.heap.size ∧ ∀ j, j < n → ∃ s, w.cell? ⟨g, j, none⟩ = some (.iface 69 (.string s)))

theorem Feat.below {w w' : World} {b off n : Nat} (h : Feat w b off n) (hb : Below w.heap.size w w') : Feat w' b off n := by
  obtain ⟨a, c, h1, h2, h3⟩ := h
  refine ⟨a, c, (hb.cell (p := ⟨b, off, none⟩) h2).trans h1, Nat.lt_of_lt_of_le h2 hb.size, fun hp => ?_⟩
  obtain ⟨g, e, hg, hc⟩ := h3 hp
  refine ⟨g, e, Nat.lt_of_lt_of_le hg hb.size, fun j hj => ?_⟩
  obtain ⟨s, hs⟩ := hc j hj
  exact ⟨s, (hb.cell (p := ⟨g, j, none⟩) hg).trans hs⟩

set_option maxHeartbeats 400000 in
theorem tag_any (s : ByteArray) (w : World) : Calls Try.prog 47 #[.string s] w fun e w' => e = .returned (.int .u8 8) ∧ w' = w := by
  go_enter Try.func47, Try.ntmps47
  go_wp2
  go_ret
  exact ⟨rfl, rfl⟩

theorem method_tag (s : ByteArray) (w : World) : (method 210 69 (.string s) "Tag").run Try.prog w = .ok (47, .string s) w := by kernel_rfl

/-- A round of a loop that fills a row of the call's own, a cell an element. -/
theorem filled {w wr : World} {e n k : Nat} {xs : List Value} {V : Nat → Value} (HO : wr.ownsRow w.heap.size e 1 (.slice (some ⟨w.heap.size, 0, none⟩) n n) n xs) (HX : ∀ j, j < k → xs[j]? = some (V j)) (hk : k < n) (HB : Below w.heap.size w wr) :
    Hid ((wr.setCell ⟨w.heap.size, k, none⟩ (V k)).ownsRow w.heap.size e 1 (.slice (some ⟨w.heap.size, 0, none⟩) n n) n (xs.set k (V k))) ∧ Hid (∀ j, j < k + 1 → (xs.set k (V k))[j]? = some (V j)) ∧ Hid (Below w.heap.size w (wr.setCell ⟨w.heap.size, k, none⟩ (V k))) := by
  have hlen : xs.length = n * 1 := HO.1
  refine ⟨(HO.stored k _).1, fun j hj => ?_, HB.setCell (p := ⟨w.heap.size, k, none⟩) (Nat.le_refl _) _⟩
  by_cases e : j = k
  · subst e; rw [List.getElem?_set_self (by omega)]
  · rw [List.getElem?_set_ne (by omega)]; exact HX j (by omega)

set_option maxHeartbeats 1000000 in
theorem tags_some (b off g n c : Nat) (hn : n ≤ 1048576) (hp : 0 < n) (w : World) (h1 : w.cell? ⟨b, off, none⟩ = some (.slice (some ⟨g, 0, none⟩) n c)) (hg : g < w.heap.size)
    (hc : ∀ j, j < n → ∃ s, w.cell? ⟨g, j, none⟩ = some (.iface 69 (.string s))) :
    Calls Try.prog 11 #[.pointer (some ⟨b, off, none⟩)] w fun e w' => e = .returned (.slice (some ⟨w.heap.size, 0, none⟩) n n) ∧ w'.ownsRow w.heap.size 29 1 (.slice (some ⟨w.heap.size, 0, none⟩) n n) n (List.replicate n (.int .u8 8)) ∧ Below w.heap.size w w' := by
  obtain ⟨i0, hi, hz0, hz1, hz2⟩ := info_parts Try.info29
  have HC : Hid (∀ j, j < n → ∃ s, w.cell? ⟨g, j, none⟩ = some (.iface 69 (.string s))) := hc
  clear hc
  have hmt := method_tag
  go_enter Try.func11, Try.ntmps11
  go_wp2_with (at_make; refine wpList_make_full _ rfl _ _ 27 rfl w.heap.size 29 i0 _ 1 Try.under27 hi hz0 hz1 .i64 .i64 n n n rfl rfl rfl rfl ?_ ?_ (Nat.le_refl _) ?_; rotate_right; intro w1 hown1 hgrow1; have h1' := hgrow1.cell h1 (by simp))
  case refine_1 => rw [hz2]; omega
  case refine_2 => unfold maxLen; omega
  have HB1 : Hid (Below w.heap.size w w1) := (Below.refl _ _).grown hgrow1 (Nat.le_refl _) (fun k e => by cases e)
  have HO1 : Hid (w1.ownsRow w.heap.size 29 1 (.slice (some ⟨w.heap.size, 0, none⟩) n n) n (madeCells (Value.int .u8 0).cells (n * 1)).toList) := hown1
  clear hown1 hgrow1 hi hz0 hz1 hz2 h1'
  go_loopw [17] (fun v wr => ∃ (k : Nat) (xs : List Value), k ≤ n ∧ v = .int .i64 k ∧ Hid (wr.ownsRow w.heap.size 29 1 (.slice (some ⟨w.heap.size, 0, none⟩) n n) n xs) ∧ Hid (∀ j, j < k → xs[j]? = some (.int .u8 8)) ∧ Hid (Below w.heap.size w wr)) (fun v _ => n - (intOf v).toNat)
  case atStart => exact ⟨0, _, Nat.zero_le _, rfl, HO1, fun j h => absurd h (Nat.not_lt_zero _), HB1⟩
  case round =>
    clear HO1 HB1
    obtain ⟨k, xs, hk, rfl, HO, HX, HB⟩ := hrel
    by_cases hlt : k < n
    · obtain ⟨s, hs⟩ := HC.out k hlt
      have gx : wr.cell? ⟨g, k, none⟩ = some (.iface 69 (.string s)) := (HB.out.cell (p := ⟨g, k, none⟩) hg).trans hs
      have hlen : xs.length = n * 1 := HO.out.1
      have f0 := HO.out.frozenAt k
      obtain ⟨u0, hu0⟩ : ∃ u, wr.cell? ⟨w.heap.size, k, none⟩ = some u := by
        rw [HO.out.cellAt k (by omega)]; exact ⟨_, List.getElem?_eq_getElem (by omega)⟩
      clear hs
      go_wp2_with (go_at_call 47; refine (tag_any _ _).mono ?_; rintro e w' ⟨rfl, rfl⟩)
      have R := filled (V := fun _ => .int .u8 8) HO.out HX.out hlt HB.out
      clear HO HX HB
      obtain ⟨R1, R2, R3⟩ := R
      go_wp2
      go_roundw
      case rel => exact ⟨k + 1, _, by omega, by go_num, R1, R2, R3⟩
      case measure => simp [intOf]; omega
    · have EX : Hid (xs = List.replicate n (.int .u8 8)) := by
        have hl := HO.out.1
        apply List.ext_getElem?
        intro i
        by_cases hi' : i < n
        · rw [HX.out i (by omega), List.getElem?_replicate, if_pos hi']
        · rw [List.getElem?_eq_none (by omega), List.getElem?_eq_none (by simp; omega)]
      go_wp2
      go_ret
      exact ⟨rfl, by rw [← EX.out]; exact HO.out, HB.out⟩

set_option maxHeartbeats 400000 in
theorem tags_zero (b off c : Nat) (a : Option Addr) (w : World) (h1 : w.cell? ⟨b, off, none⟩ = some (.slice a 0 c)) :
    Calls Try.prog 11 #[.pointer (some ⟨b, off, none⟩)] w fun e w' => e = .returned (.slice (some ⟨w.heap.size, 0, none⟩) 0 0) ∧ w'.ownsRow w.heap.size 29 1 (.slice (some ⟨w.heap.size, 0, none⟩) 0 0) 0 [] ∧ Below w.heap.size w w' := by
  obtain ⟨i0, hi, hz0, hz1, hz2⟩ := info_parts Try.info29
  go_enter Try.func11, Try.ntmps11
  go_wp2_with (at_make; refine wpList_make_full _ rfl _ _ 27 rfl w.heap.size 29 i0 _ 1 Try.under27 hi hz0 hz1 .i64 .i64 0 0 0 rfl rfl rfl rfl ?_ ?_ (Nat.le_refl _) ?_; rotate_right; intro w1 hown1 hgrow1; have h1' := hgrow1.cell h1 (by simp))
  case refine_1 => rw [hz2]; omega
  case refine_2 => unfold maxLen; omega
  have HB1 : Hid (Below w.heap.size w w1) := (Below.refl _ _).grown hgrow1 (Nat.le_refl _) (fun k e => by cases e)
  have HO1 : Hid (w1.ownsRow w.heap.size 29 1 (.slice (some ⟨w.heap.size, 0, none⟩) 0 0) 0 []) := by
    have : (madeCells (Value.int .u8 0).cells (0 * 1)).toList = [] := by simp [madeCells]
    rw [this] at hown1; exact hown1
  clear hown1 hgrow1
  refine wp_loop_rounds 1 ?_
  rw [rounds_succ]
  go_wp2
  go_ret
  exact ⟨rfl, HO1.out, HB1.out⟩

/-- Tags, at whatever feature of String fields: a new row of as many tags, each 8. -/
theorem tags_any (b off n : Nat) (hn : n ≤ 1048576) (w : World) (h : Feat w b off n) :
    Calls Try.prog 11 #[.pointer (some ⟨b, off, none⟩)] w fun e w' => e = .returned (.slice (some ⟨w.heap.size, 0, none⟩) n n) ∧ w'.ownsRow w.heap.size 29 1 (.slice (some ⟨w.heap.size, 0, none⟩) n n) n (List.replicate n (.int .u8 8)) ∧ Below w.heap.size w w' := by
  obtain ⟨a, c, h1, _, h3⟩ := h
  by_cases hp : 0 < n
  · obtain ⟨g, rfl, hg, hc⟩ := h3 hp
    exact tags_some b off g n c hn hp w h1 hg hc
  · obtain rfl : n = 0 := by omega
    exact tags_zero b off c a w h1
end Go.Proofs.Qxb6613783a
