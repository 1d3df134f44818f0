/-
  THE WALK of ZZnewNamedFeatures.
-/
import Derived.Test.Qxb6613783aBud
import Derived.Test.Qxb6613783aNewG
import Derived.Deep.RegionWith
namespace Go.Proofs.Qxb6613783a
open Go.RowKit

theorem Try.info68 : (Try.prog.info? 68).map (fun i => (i.zero, i.size, i.bytes)) = some (some (.agg #[.string ByteArray.empty, .slice none 0 0]), 2, 40) := by kernel_rfl
theorem Try.under51 : Try.prog.underlying 51 = some (.slice 68) := by kernel_rfl

/-- In block B, from cell o on, lie n named features: the i-th named NS i, with N i fields, which lie in a block beyond B. -/
def RunAt (w : World) (B o n : Nat) (NS : Nat → ByteArray) (N : Nat → Nat) : Prop :=
  ∀ i, i < n → w.cell? ⟨B, o + i * 2, none⟩ = some (.string (NS i)) ∧ FeatF w (B + 1) B (o + i * 2 + 1) (N i)

theorem RunAt.below {w w' : World} {B o n : Nat} {NS : Nat → ByteArray} {N : Nat → Nat} (h : RunAt w B o n NS N) (hB : B < w.heap.size) (hb : Below w.heap.size w w') : RunAt w' B o n NS N :=
  fun i hi => ⟨(hb.cell (p := ⟨B, o + i * 2, none⟩) hB).trans (h i hi).1, (h i hi).2.below hb⟩

theorem own_below {w w' : World} {base B e size n : Nat} {v : Value} {xs : List Value} (h : w.ownsRow base e size v n xs) (hb : Below B w w') (hB : ∀ k, v.ownBlock = some k → k < B) : w'.ownsRow base e size v n xs := by
  obtain ⟨h1, h2⟩ := h
  refine ⟨h1, ?_⟩
  rcases h2 with h2 | ⟨g, cap, cur, rfl, hg, hh, r⟩
  · exact .inl h2
  · exact .inr ⟨g, cap, cur, rfl, hg, (hb.block g (hB g rfl)).trans hh, r⟩

/-- A store into another cell leaves a cell as it was. -/
theorem cell_elsewhere (w : World) (b o b' o' : Nat) (v : Value) (h : b' ≠ b ∨ o' ≠ o) : (w.setCell ⟨b, o, none⟩ v).cell? ⟨b', o', none⟩ = w.cell? ⟨b', o', none⟩ := by
  rcases h with h | h
  · exact World.cell?_of_block (w := w) (Below.heap_setCell w ⟨b, o, none⟩ v b' h)
  · by_cases e : b' = b
    · subst e
      simp only [World.cell?, World.setCell, Array.getElem?_modify]
      cases hq : w.heap[b']? with
      | none => simp
      | some x =>
        cases x <;> simp [Ne.symm h]
    · exact World.cell?_of_block (w := w) (Below.heap_setCell w ⟨b, o, none⟩ v b' e)

/-- The k-th named feature is stored. -/
theorem named_step {w W : World} {n k : Nat} {xs : List Value} {NS : Nat → ByteArray} {N : Nat → Nat} {fa : Option Addr} {fc : Nat} (HO : W.ownsRow w.heap.size 68 2 (.slice (some ⟨w.heap.size, 0, none⟩) n n) n xs) (HX : RunAt W w.heap.size 0 k NS N) (hk : k < n) (HB : Below w.heap.size w W)
    (hf : 0 < N k → ∃ g, fa = some ⟨g, 0, none⟩ ∧ w.heap.size + 1 ≤ g ∧ g < W.heap.size ∧ ∀ j, j < N k → ∃ s, W.cell? ⟨g, j, none⟩ = some (.iface 69 (.string s))) :
    Hid (((W.setCell ⟨w.heap.size, k * 2, none⟩ (.string (NS k))).setCell ⟨w.heap.size, k * 2 + 1, none⟩ (.slice fa (N k) fc)).ownsRow w.heap.size 68 2 (.slice (some ⟨w.heap.size, 0, none⟩) n n) n ((xs.set (k * 2) (.string (NS k))).set (k * 2 + 1) (.slice fa (N k) fc))) ∧
    Hid (RunAt ((W.setCell ⟨w.heap.size, k * 2, none⟩ (.string (NS k))).setCell ⟨w.heap.size, k * 2 + 1, none⟩ (.slice fa (N k) fc)) w.heap.size 0 (k + 1) NS N) ∧
    Hid (Below w.heap.size w ((W.setCell ⟨w.heap.size, k * 2, none⟩ (.string (NS k))).setCell ⟨w.heap.size, k * 2 + 1, none⟩ (.slice fa (N k) fc))) := by
  have hlen : xs.length = n * 2 := HO.1
  have hlt := (HO.lt _ rfl).2
  have O2 := ((HO.stored (k * 2) (.string (NS k))).1.stored (k * 2 + 1) (.slice fa (N k) fc)).1
  refine ⟨O2, ?_, (HB.setCell (p := ⟨w.heap.size, k * 2, none⟩) (Nat.le_refl _) _).setCell (p := ⟨w.heap.size, k * 2 + 1, none⟩) (Nat.le_refl _) _⟩
  have far : ∀ g j, w.heap.size + 1 ≤ g → ((W.setCell ⟨w.heap.size, k * 2, none⟩ (.string (NS k))).setCell ⟨w.heap.size, k * 2 + 1, none⟩ (.slice fa (N k) fc)).cell? ⟨g, j, none⟩ = W.cell? ⟨g, j, none⟩ := fun g j hg => by
    rw [cell_elsewhere _ _ _ _ _ _ (.inl (by omega)), cell_elsewhere _ _ _ _ _ _ (.inl (by omega))]
  have sz : ((W.setCell ⟨w.heap.size, k * 2, none⟩ (.string (NS k))).setCell ⟨w.heap.size, k * 2 + 1, none⟩ (.slice fa (N k) fc)).heap.size = W.heap.size := by simp
  intro i hi
  by_cases e : i = k
  · subst e
    constructor
    · rw [Nat.zero_add, O2.cellAt (i * 2) (by omega), List.getElem?_set_ne (by omega), List.getElem?_set_self (by omega)]
    · refine ⟨fa, fc, ?_, by rw [sz]; exact hlt, fun hp => ?_⟩
      · rw [Nat.zero_add, O2.cellAt (i * 2 + 1) (by omega), List.getElem?_set_self (by simp; omega)]
      · obtain ⟨g, e, hlo, hg, hc⟩ := hf hp
        exact ⟨g, e, hlo, by rw [sz]; exact hg, fun j hj => by rw [far g j hlo]; exact hc j hj⟩
  · obtain ⟨h1, a, c, h2, h3, h4⟩ := HX i (by omega)
    constructor
    · rw [cell_elsewhere _ _ _ _ _ _ (.inr (by omega)), cell_elsewhere _ _ _ _ _ _ (.inr (by omega))]; exact h1
    · refine ⟨a, c, ?_, by rw [sz]; exact h3, fun hp => ?_⟩
      · rw [cell_elsewhere _ _ _ _ _ _ (.inr (by omega)), cell_elsewhere _ _ _ _ _ _ (.inr (by omega))]; exact h2
      · obtain ⟨g, e, hlo, hg, hc⟩ := h4 hp
        exact ⟨g, e, hlo, by rw [sz]; exact hg, fun j hj => by rw [far g j hlo]; exact hc j hj⟩

set_option maxHeartbeats 400000 in
theorem named_nil (av : Option Addr) (m cv : Nat) (w : World) :
    Calls Try.prog 20 #[.slice none 0 0, .slice av m cv] w fun e w' => e = .returned (.slice none 0 0) ∧ w' = w := by
  have q22 : ∀ (w : World) (a : Option Addr) (n c n' c' : Nat), (binOp .eql 22 (.slice a n c) (.slice none n' c')).run Try.prog w = .ok (.bool a.isNone) w := fun w a n c n' c' => Lib.run_eql_slice_nil w _ _ a n c n' c' Try.underlying22
  go_enter Try.func20, Try.ntmps20
  go_wp2
  go_ret
  exact ⟨rfl, rfl⟩

set_option maxHeartbeats 1000000 in
theorem named_some (x : Addr) (n cn : Nat) (NS : Nat → ByteArray) (av : Option Addr) (cv : Nat) (M : Mat) (hn : n ≤ 1048576) (hN : ∀ i, i < n → M.N i ≤ 1048576) (w : World)
    (h1 : IsStrs w (some x) n cn NS) (h2 : IsMat w av n cv M) :
    Calls Try.prog 20 #[.slice (some x) n cn, .slice av n cv] w fun e w' => e = .returned (.slice (some ⟨w.heap.size, 0, none⟩) n n) ∧ w.heap.size < w'.heap.size ∧ RunAt w' w.heap.size 0 n NS M.N ∧ Below w.heap.size w w' := by
  have q22 : ∀ (w : World) (a : Option Addr) (n c n' c' : Nat), (binOp .eql 22 (.slice a n c) (.slice none n' c')).run Try.prog w = .ok (.bool a.isNone) w := fun w a n c n' c' => Lib.run_eql_slice_nil w _ _ a n c n' c' Try.underlying22
  obtain ⟨i0, hi, hz0, hz1, hz2⟩ := info_parts Try.info68
  have H1 : Hid (IsStrs w (some x) n cn NS) := h1
  have H2 : Hid (IsMat w av n cv M) := h2
  have HN : Hid (∀ i, i < n → M.N i ≤ 1048576) := hN
  clear h1 h2 hN
  go_enter Try.func20, Try.ntmps20
  go_wp2_with (at_make; refine wpList_make_full _ rfl _ _ 51 rfl w.heap.size 68 i0 _ 2 Try.under51 hi hz0 hz1 .i64 .i64 n n n rfl rfl rfl rfl ?_ ?_ (Nat.le_refl _) ?_; rotate_right; intro w1 hown1 hgrow1)
  case refine_1 => rw [hz2]; omega
  case refine_2 => unfold maxLen; omega
  have HB1 : Hid (Below w.heap.size w w1) := (Below.refl _ _).grown hgrow1 (Nat.le_refl _) (fun k e => by cases e)
  have HO1 : Hid (w1.ownsRow w.heap.size 68 2 (.slice (some ⟨w.heap.size, 0, none⟩) n n) n (madeCells (Value.agg #[.string ByteArray.empty, .slice none 0 0]).cells (n * 2)).toList) := hown1
  clear hown1 hgrow1 hi hz0 hz1 hz2 q22
  go_loopw [6] (fun v wr => ∃ (k : Nat) (xs : List Value), k ≤ n ∧ v = .int .i64 k ∧ Hid (wr.ownsRow w.heap.size 68 2 (.slice (some ⟨w.heap.size, 0, none⟩) n n) n xs) ∧ Hid (RunAt wr w.heap.size 0 k NS M.N) ∧ Hid (Below w.heap.size w wr)) (fun v _ => n - (intOf v).toNat)
  case atStart => exact ⟨0, _, Nat.zero_le _, rfl, HO1, fun j h => absurd h (Nat.not_lt_zero _), HB1⟩
  case round =>
    clear HO1 HB1
    obtain ⟨k, xs, hk, rfl, HO, HX, HB⟩ := hrel
    by_cases hlt : k < n
    · obtain ⟨b, o, e, hbl, hc⟩ := H1.out.loc (by omega)
      cases e
      obtain ⟨b2, o2, rfl, hbl2, hc2⟩ := H2.out.loc (by omega)
      obtain ⟨g2, hS2⟩ := hc2 k hlt
      have gx : wr.cell? ⟨b, o + k, none⟩ = some (.string (NS k)) := (HB.out.cell (p := ⟨b, o + k, none⟩) hbl).trans (hc k hlt)
      have gy : wr.cell? ⟨b2, o2 + k, none⟩ = some (.slice (M.A k) (M.N k) (M.C k)) := (HB.out.cell (p := ⟨b2, o2 + k, none⟩) hbl2).trans g2
      have HS : Hid (IsStrs wr.drew (M.A k) (M.N k) (M.C k) (M.S k)) := hS2.below HB.out.drew
      have hNk := HN.out k hlt
      have hlen : xs.length = n * 2 := HO.out.1
      have hgl := (HO.out.lt _ rfl).2
      have hsz := HB.out.size
      have KB : Hid (∀ w', Below w.heap.size w w' → w'.cell? ⟨b, o + k, none⟩ = some (.string (NS k)) ∧ w'.cell? ⟨b2, o2 + k, none⟩ = some (.slice (M.A k) (M.N k) (M.C k)) ∧ Below w.heap.size w w') :=
        fun w' h => ⟨(h.cell (p := ⟨b, o + k, none⟩) hbl).trans (hc k hlt), (h.cell (p := ⟨b2, o2 + k, none⟩) hbl2).trans g2, h⟩
      have KC : Hid (∀ w', Below wr.drew.heap.size wr.drew w' → (∃ u, w'.cell? ⟨w.heap.size, k * 2, none⟩ = some u) ∧ (∃ u, w'.cell? ⟨w.heap.size, k * 2 + 1, none⟩ = some u) ∧ w'.frozen? ⟨w.heap.size, k * 2, none⟩ = false ∧ w'.frozen? ⟨w.heap.size, k * 2 + 1, none⟩ = false) := by
        intro w' h
        have hO := HO.out.drew
        refine ⟨?_, ?_, (h.frozen (p := ⟨w.heap.size, k * 2, none⟩) hgl).trans (hO.frozenAt _), (h.frozen (p := ⟨w.heap.size, k * 2 + 1, none⟩) hgl).trans (hO.frozenAt _)⟩
        · rw [h.cell (p := ⟨w.heap.size, k * 2, none⟩) hgl, hO.cellAt (k * 2) (by omega)]; exact ⟨_, List.getElem?_eq_getElem (by omega)⟩
        · rw [h.cell (p := ⟨w.heap.size, k * 2 + 1, none⟩) hgl, hO.cellAt (k * 2 + 1) (by omega)]; exact ⟨_, List.getElem?_eq_getElem (by omega)⟩
      clear g2 hS2 hc hc2
      go_wp2_with fail
      go_region_with (go_at_call 10; refine (newG_any _ _ _ _ hNk _ HS.out).mono ?_; rintro e w5 ⟨f, rfl, hf, ⟨fa, fc, hfc, hfl, hfloc⟩, hb5⟩; obtain ⟨⟨u0, hu0⟩, ⟨u1, hu1⟩, hf0, hf1⟩ := KC.out w5 hb5; have gx5 := (KB.out w5 (HB.out.drew.trans (hb5.mono hsz))).1)
      all_goals
        have R := named_step (fa := fa) (fc := fc) (own_below HO.out.drew hb5 (fun k e => by cases e; exact hgl)) (RunAt.below (w := wr.drew) HX.out hgl hb5) hlt (HB.out.drew.trans (hb5.mono hsz)) (fun hp => by obtain ⟨g, e, h1, h2, h3⟩ := hfloc hp; exact ⟨g, e, by simp at h1; omega, h2, h3⟩)
        clear HO HX HB KB KC hfloc hb5 HS
        obtain ⟨R1, R2, R3⟩ := R
        go_wp2
        go_roundw
        case rel => exact ⟨k + 1, _, by omega, by go_num, R1, R2, R3⟩
        case measure => simp [intOf]; omega
    · have hgl := (HO.out.lt _ rfl).2
      have HX2 : Hid (RunAt wr w.heap.size 0 n NS M.N) := fun i hi => HX.out i (by omega)
      clear HO HX
      go_wp2
      go_ret
      exact ⟨rfl, hgl, HX2.out, HB.out⟩
end Go.Proofs.Qxb6613783a
