/-
  THE WALK of FnTagsAnswersAFreshSlice.
-/
import Derived.Test.Qxb6613783aNewF
import Derived.Laws.CopyOwn
namespace Go.Proofs.Qxb6613783a
open Go.RowKit

theorem Try.under22 : Try.prog.underlying 22 = some (.slice 9) := by kernel_rfl
theorem Try.size9 : (Try.prog.info? 9).map (·.size) = some 1 := by kernel_rfl

set_option maxHeartbeats 400000 in
theorem law3_big (a : Option Addr) (n c : Nat) (h : 1048576 < n) (h1 : (n : Int) ≤ 9223372036854775807) (w : World) :
    Calls Try.prog 3 #[.slice a n c] w fun e w' => e = .returned (.bool true) ∧ Below w.heap.size w w' := by
  go_enter Try.func3, Try.ntmps3
  go_wp2_with fail
  refine (zb8_big a n c h h1 _).mono ?_
  rintro e w1 ⟨rfl, rfl⟩
  go_wp2
  go_ret
  exact ⟨rfl, Below.refl _ _⟩

/-- The strings as cells. -/
def strCells (n : Nat) (S : Nat → ByteArray) : List Value := (List.range n).map fun j => .string (S j)
theorem strCells_length (n : Nat) (S : Nat → ByteArray) : (strCells n S).length = n := by simp [strCells]
theorem strCells_at (n : Nat) (S : Nat → ByteArray) (k : Nat) (h : k < n) : (strCells n S)[k]? = some (.string (S k)) := by simp [strCells, h]
theorem strCells_one (n : Nat) (S : Nat → ByteArray) : ∀ v ∈ strCells n S, v.oneCell' = true := by
  intro v hv
  simp [strCells] at hv
  obtain ⟨j, _, rfl⟩ := hv
  rfl

/-- The row that a value owns, whole. -/
theorem own_row {w : World} {base e n g : Nat} {xs : List Value} (h : w.ownsRow base e 1 (.slice (some ⟨g, 0, none⟩) n n) n xs) : w.heap[g]? = some (.cells xs.toArray e (0, 0)) := by
  rcases h.2 with ⟨h', _⟩ | ⟨g', cap', cur, h', _, hg, _, _, hcs, htake⟩
  · simp at h'
  · simp only [Value.slice.injEq, Option.some.injEq, Addr.mk.injEq, and_true, true_and] at h'
    obtain ⟨rfl, rfl⟩ := h'
    have : xs = cur.toList := by rw [← htake, List.take_of_length_le (by simp; omega)]
    rw [this]; simpa using hg

/-- 'copy(zzc, vals)' into a new row of the same length: the row holds the strings. -/
theorem copy_strs {w w3 : World} {x : Addr} {n c : Nat} {S : Nat → ByteArray} {xs : List Value} (hown : w3.ownsRow w.heap.size 9 1 (.slice (some ⟨w.heap.size, 0, none⟩) n n) n xs) (h : IsStrs w (some x) n c S) (hb : Below w.heap.size w w3) :
    ∃ w4, (Builtin.copy_ #[22, 22] 3 #[.slice (some ⟨w.heap.size, 0, none⟩) n n, .slice (some x) n c]).run Try.prog w3 = .ok (.int .i64 n) w4 ∧ IsStrs w4 (some ⟨w.heap.size, 0, none⟩) n n S ∧ w4.heap.size = w3.heap.size ∧ Below w.heap.size w w4 := by
  have hlt := (hown.lt _ rfl).2
  by_cases hp : 0 < n
  · rcases h with ⟨h, _⟩ | ⟨x', e, h⟩
    · cases h
    · cases e
      obtain ⟨b, o, rfl, hlt2, hc⟩ := h hp
      have hrow := own_row hown
      have hlen : xs.length = n * 1 := hown.1
      have hrun := run_copy_row (P := Try.prog) w3 22 22 3 9 w.heap.size 0 n n ⟨b, o, none⟩ n c xs.toArray 9 (strCells n S) Try.under22 Try.size9 hrow (by rw [strCells_length]; exact (Nat.min_self n).symm)
        (fun j v hj => by
          have hjn : j < n := by have := (List.getElem?_eq_some_iff.1 hj).1; rwa [strCells_length] at this
          rw [strCells_at n S j hjn] at hj
          cases hj
          rw [Go.WideShapes.add_plain]
          exact (hb.cell (p := ⟨b, o + j, none⟩) hlt2).trans (hc j hjn))
        (by rw [strCells_length]; simp; omega) (strCells_one n S)
      have e0 : (xs.toArray.toList.take 0 ++ strCells n S ++ xs.toArray.toList.drop (0 + n)) = strCells n S ++ xs.drop n := by simp
      rw [strCells_length, e0] at hrun
      refine ⟨_, hrun, .inr ⟨_, rfl, fun _ => ⟨w.heap.size, 0, rfl, by simpa [World.setRow] using hlt, fun k hk => ?_⟩⟩, by simp [World.setRow], below_setRow hb (Nat.le_refl _) _⟩
      have hh := setRow_heap w3 w.heap.size xs.toArray (strCells n S ++ xs.drop n).toArray 9 (0, 0) hrow
      simp only [World.cell?, hh]
      have hk2 : k < (strCells n S).length := by rw [strCells_length]; exact hk
      simp only [List.getElem?_toArray, Nat.zero_add]
      rw [List.getElem?_append_left hk2, strCells_at n S k hk]
      rfl
  · obtain rfl : n = 0 := by omega
    have hrun := run_copy_none (P := Try.prog) w3 22 22 3 9 (some ⟨w.heap.size, 0, none⟩) (some x) 0 0 0 c Try.under22 Try.size9 (by simp)
    exact ⟨w3, hrun, .inr ⟨_, rfl, fun h => absurd h (Nat.lt_irrefl _)⟩, rfl, hb⟩

set_option maxHeartbeats 1000000 in
theorem law3_some (x : Addr) (n c : Nat) (S : Nat → ByteArray) (hn : n ≤ 1048576) (w : World) (h : IsStrs w (some x) n c S) :
    Calls Try.prog 3 #[.slice (some x) n c] w fun e w' => e = .returned (.bool true) ∧ Below w.heap.size w w' := by
  have q22 : ∀ (w : World) (a : Option Addr) (n c n' c' : Nat), (binOp .neq 22 (.slice a n c) (.slice none n' c')).run Try.prog w = .ok (.bool (!a.isNone)) w := fun w a n c n' c' => run_neq_slice_nil_any w _ _ a n c n' c' Try.underlying22
  obtain ⟨i0, hi, hz0, hz1, hz2⟩ := info_parts Try.info9
  have HI : Hid (IsStrs w (some x) n c S) := h
  clear h
  go_enter Try.func3, Try.ntmps3
  go_wp2_with fail
  refine (zb8_all _ n c S hn _ HI.out).mono ?_
  rintro e w1 ⟨⟨r, rfl⟩, rfl⟩
  cases r with
  | false =>
    go_wp2
    go_ret
    exact ⟨rfl, Below.refl _ _⟩
  | true =>
    go_wp2_with fail
    refine (sb_all _ n c S hn 1048576 (by omega) (by omega) _ HI.out).mono ?_
    rintro e w2 ⟨⟨r, rfl, r0, r1⟩, rfl⟩
    by_cases hr : 1048576 < r
    · go_wp2
      go_ret
      exact ⟨rfl, Below.refl _ _⟩
    · have tr : decide ((1048576 : Int) < r) = false := decide_eq_false hr
      have tn : ((n : Int) != (n : Int)) = false := by simp
      go_wp2_with (at_make; refine wpList_make_full _ rfl _ _ 22 rfl w2.heap.size 9 i0 _ 1 Try.under22 hi hz0 hz1 .i64 .i64 n n n rfl rfl rfl rfl ?_ ?_ (Nat.le_refl _) ?_; rotate_right; intro w3 hown3 hgrow3; obtain ⟨w4, hcp, hi4, hs4, hb4⟩ := copy_strs hown3 HI.out ((Below.refl _ _).grown hgrow3 (Nat.le_refl _) (fun k e => by cases e)))
      case refine_1 => rw [hz2]; omega
      case refine_2 => unfold maxLen; omega
      have HI4 : Hid (IsStrs w4 (some ⟨w2.heap.size, 0, none⟩) n n S) := hi4
      have HB4 : Hid (Below w2.heap.size w2 w4) := hb4
      have S4 : w2.heap.size ≤ w4.heap.size := hb4.size
      clear hi4 hb4 hs4 hown3 hgrow3 HI hi hz0 hz1 hz2 q22
      clear hcp
      refine (newF_any _ n _ S hn _ HI4.out).mono ?_
      rintro e w5 ⟨f, rfl, hf, hfe, hb5⟩
      have HF5 : Hid (Feat w5 f 0 n) := hfe
      have HB5 : Hid (Below w2.heap.size w2 w5) := HB4.out.trans (hb5.mono S4)
      have S5 : w2.heap.size ≤ w5.heap.size := Nat.le_trans S4 hb5.size
      clear hfe hb5 HI4 HB4 S4
      go_wp2_with fail
      refine (tags_any f 0 n hn _ HF5.out).mono ?_
      rintro e w6 ⟨rfl, hown6, hb6⟩
      have HO6 : Hid (w6.ownsRow w5.heap.size 29 1 (.slice (some ⟨w5.heap.size, 0, none⟩) n n) n (List.replicate n (.int .u8 8))) := hown6
      have HB6 : Hid (Below w5.heap.size w5 w6) := hb6
      clear hown6 hb6
      go_wp2_with fail
      go_loopw [6] (fun v wr => ∃ (k : Nat) (xs : List Value), k ≤ n ∧ v = .int .i64 k ∧ Hid (wr.ownsRow w5.heap.size 29 1 (.slice (some ⟨w5.heap.size, 0, none⟩) n n) n xs) ∧ Hid (Below w5.heap.size w5 wr)) (fun v _ => n - (intOf v).toNat)
      case atStart => exact ⟨0, _, Nat.zero_le _, rfl, HO6, HB6⟩
      case round =>
        clear HO6 HB6
        obtain ⟨k, xs, hk, rfl, HO, HB⟩ := hrel
        by_cases hlt : k < n
        · have hlen : xs.length = n * 1 := HO.out.1
          have f0 := HO.out.frozenAt k
          obtain ⟨u0, hu0⟩ : ∃ u, wr.cell? ⟨w5.heap.size, k, none⟩ = some u := by
            rw [HO.out.cellAt k (by omega)]; exact ⟨_, List.getElem?_eq_getElem (by omega)⟩
          have R1 : Hid ((wr.setCell ⟨w5.heap.size, k, none⟩ (.int .u8 0)).ownsRow w5.heap.size 29 1 (.slice (some ⟨w5.heap.size, 0, none⟩) n n) n (xs.set k (.int .u8 0))) := (HO.out.stored k _).1
          have R2 : Hid (Below w5.heap.size w5 (wr.setCell ⟨w5.heap.size, k, none⟩ (.int .u8 0))) := HB.out.setCell (p := ⟨w5.heap.size, k, none⟩) (Nat.le_refl _) _
          clear HO HB
          go_wp2
          go_roundw
          case rel => exact ⟨k + 1, _, by omega, by go_num, R1, R2⟩
          case measure => simp [intOf]; omega
        · obtain ⟨wo, hwo⟩ : ∃ wo : World, wo = wr := ⟨_, rfl⟩
          rw [← hwo] at HO HB ⊢
          clear hwo
          have HFo : Hid (Feat wo f 0 n) := HF5.out.below HB.out
          have HBo : Hid (Below w2.heap.size w2 wo) := HB5.out.trans (HB.out.mono S5)
          have So : w2.heap.size ≤ wo.heap.size := Nat.le_trans S5 HB.out.size
          clear HO HB
          go_wp2_with fail
          refine (tags_any f 0 n hn _ HFo.out).mono ?_
          rintro e w8 ⟨rfl, hown8, hb8⟩
          have HB8 : Hid (Below w2.heap.size w2 w8) := HBo.out.trans (hb8.mono So)
          have HC8 : Hid (∀ j, j < n → w8.cell? ⟨wo.heap.size, j, none⟩ = some (.int .u8 8)) := fun j hj => by
            rw [hown8.cellAt j (by omega), List.getElem?_replicate, if_pos hj]
          clear hown8 hb8
          go_wp2_with fail
          go_loop [8] (fun v => ∃ (k : Nat), k ≤ n ∧ v = .int .i64 k) (fun v => n - (intOf v).toNat)
          case atStart => exact ⟨0, Nat.zero_le _, rfl⟩
          case round =>
            obtain ⟨j, hj, rfl⟩ := hrel
            by_cases hlt2 : j < n
            · have g8 := HC8.out j hlt2
              go_wp2
              go_round
              case rel => exact ⟨j + 1, by omega, by go_num⟩
              case measure => simp [intOf]; omega
            · go_wp2
              go_ret
              exact ⟨rfl, HB8.out⟩
set_option maxHeartbeats 1000000 in
theorem law3_none (n c : Nat) (S : Nat → ByteArray) (hn : n ≤ 1048576) (w : World) (h : IsStrs w none n c S) :
    Calls Try.prog 3 #[.slice none n c] w fun e w' => e = .returned (.bool true) ∧ Below w.heap.size w w' := by
  have q22 : ∀ (w : World) (a : Option Addr) (n c n' c' : Nat), (binOp .neq 22 (.slice a n c) (.slice none n' c')).run Try.prog w = .ok (.bool (!a.isNone)) w := fun w a n c n' c' => run_neq_slice_nil_any w _ _ a n c n' c' Try.underlying22
  have HI : Hid (IsStrs w none n c S) := h
  clear h
  go_enter Try.func3, Try.ntmps3
  go_wp2_with fail
  refine (zb8_all _ n c S hn _ HI.out).mono ?_
  rintro e w1 ⟨⟨r, rfl⟩, rfl⟩
  cases r with
  | false =>
    go_wp2
    go_ret
    exact ⟨rfl, Below.refl _ _⟩
  | true =>
    go_wp2_with fail
    refine (sb_all _ n c S hn 1048576 (by omega) (by omega) _ HI.out).mono ?_
    rintro e w2 ⟨⟨r, rfl, r0, r1⟩, rfl⟩
    by_cases hr : 1048576 < r
    · go_wp2
      go_ret
      exact ⟨rfl, Below.refl _ _⟩
    · have tr : decide ((1048576 : Int) < r) = false := decide_eq_false hr
      have tn : ((n : Int) != (n : Int)) = false := by simp
      have HI4 : Hid (IsStrs w2 none n c S) := HI.out
      have HB4 : Hid (Below w2.heap.size w2 w2) := Below.refl _ _
      have S4 : w2.heap.size ≤ w2.heap.size := Nat.le_refl _
      go_wp2_with fail
      refine (newF_any _ n _ S hn _ HI4.out).mono ?_
      rintro e w5 ⟨f, rfl, hf, hfe, hb5⟩
      have HF5 : Hid (Feat w5 f 0 n) := hfe
      have HB5 : Hid (Below w2.heap.size w2 w5) := HB4.out.trans (hb5.mono S4)
      have S5 : w2.heap.size ≤ w5.heap.size := Nat.le_trans S4 hb5.size
      clear hfe hb5 HI4 HB4 S4
      go_wp2_with fail
      refine (tags_any f 0 n hn _ HF5.out).mono ?_
      rintro e w6 ⟨rfl, hown6, hb6⟩
      have HO6 : Hid (w6.ownsRow w5.heap.size 29 1 (.slice (some ⟨w5.heap.size, 0, none⟩) n n) n (List.replicate n (.int .u8 8))) := hown6
      have HB6 : Hid (Below w5.heap.size w5 w6) := hb6
      clear hown6 hb6
      go_wp2_with fail
      go_loopw [6] (fun v wr => ∃ (k : Nat) (xs : List Value), k ≤ n ∧ v = .int .i64 k ∧ Hid (wr.ownsRow w5.heap.size 29 1 (.slice (some ⟨w5.heap.size, 0, none⟩) n n) n xs) ∧ Hid (Below w5.heap.size w5 wr)) (fun v _ => n - (intOf v).toNat)
      case atStart => exact ⟨0, _, Nat.zero_le _, rfl, HO6, HB6⟩
      case round =>
        clear HO6 HB6
        obtain ⟨k, xs, hk, rfl, HO, HB⟩ := hrel
        by_cases hlt : k < n
        · have hlen : xs.length = n * 1 := HO.out.1
          have f0 := HO.out.frozenAt k
          obtain ⟨u0, hu0⟩ : ∃ u, wr.cell? ⟨w5.heap.size, k, none⟩ = some u := by
            rw [HO.out.cellAt k (by omega)]; exact ⟨_, List.getElem?_eq_getElem (by omega)⟩
          have R1 : Hid ((wr.setCell ⟨w5.heap.size, k, none⟩ (.int .u8 0)).ownsRow w5.heap.size 29 1 (.slice (some ⟨w5.heap.size, 0, none⟩) n n) n (xs.set k (.int .u8 0))) := (HO.out.stored k _).1
          have R2 : Hid (Below w5.heap.size w5 (wr.setCell ⟨w5.heap.size, k, none⟩ (.int .u8 0))) := HB.out.setCell (p := ⟨w5.heap.size, k, none⟩) (Nat.le_refl _) _
          clear HO HB
          go_wp2
          go_roundw
          case rel => exact ⟨k + 1, _, by omega, by go_num, R1, R2⟩
          case measure => simp [intOf]; omega
        · obtain ⟨wo, hwo⟩ : ∃ wo : World, wo = wr := ⟨_, rfl⟩
          rw [← hwo] at HO HB ⊢
          clear hwo
          have HFo : Hid (Feat wo f 0 n) := HF5.out.below HB.out
          have HBo : Hid (Below w2.heap.size w2 wo) := HB5.out.trans (HB.out.mono S5)
          have So : w2.heap.size ≤ wo.heap.size := Nat.le_trans S5 HB.out.size
          clear HO HB
          go_wp2_with fail
          refine (tags_any f 0 n hn _ HFo.out).mono ?_
          rintro e w8 ⟨rfl, hown8, hb8⟩
          have HB8 : Hid (Below w2.heap.size w2 w8) := HBo.out.trans (hb8.mono So)
          have HC8 : Hid (∀ j, j < n → w8.cell? ⟨wo.heap.size, j, none⟩ = some (.int .u8 8)) := fun j hj => by
            rw [hown8.cellAt j (by omega), List.getElem?_replicate, if_pos hj]
          clear hown8 hb8
          go_wp2_with fail
          go_loop [8] (fun v => ∃ (k : Nat), k ≤ n ∧ v = .int .i64 k) (fun v => n - (intOf v).toNat)
          case atStart => exact ⟨0, Nat.zero_le _, rfl⟩
          case round =>
            obtain ⟨j, hj, rfl⟩ := hrel
            by_cases hlt2 : j < n
            · have g8 := HC8.out j hlt2
              go_wp2
              go_round
              case rel => exact ⟨j + 1, by omega, by go_num⟩
              case measure => simp [intOf]; omega
            · go_wp2
              go_ret
              exact ⟨rfl, HB8.out⟩

theorem law3 (a : Option Addr) (n c : Nat) (S : Nat → ByteArray) (w : World) (hm : n ≤ maxLen) (h : IsStrs w a n c S) :
    Calls Try.prog 3 #[.slice a n c] w fun e w' => e = .returned (.bool true) ∧ Below w.heap.size w w' := by
  by_cases hn : 1048576 < n
  · exact law3_big a n c hn (by unfold maxLen at hm; omega) w
  · cases a with
    | none => exact law3_none n c S (by omega) w h
    | some x => exact law3_some x n c S (by omega) w h
end Go.Proofs.Qxb6613783a
