/-
  THE WALK of Complement and of ZZByLoLen.
-/
import Derived.Test.Qxb6613004aSetOf
import Derived.Test.Qxb6613004aSets
namespace Go.Proofs.Qxb6613004a
open Go.RowKit
open Sets

/-- The cells of a list of ranges. -/
def cellsOf : List Rg → List Value
  | [] => []
  | r :: t => .int .i32 r.1 :: .int .i32 r.2 :: cellsOf t

theorem cellsOf_length (rs : List Rg) : (cellsOf rs).length = rs.length * 2 := by
  induction rs with
  | nil => rfl
  | cons r t ih => simp only [cellsOf, List.length_cons, ih]; omega
theorem cellsOf_append (a b : List Rg) : cellsOf (a ++ b) = cellsOf a ++ cellsOf b := by
  induction a with
  | nil => rfl
  | cons r t ih => simp only [List.cons_append, cellsOf, ih]
theorem cellsOf_lo (rs : List Rg) (j : Nat) : (cellsOf rs)[j * 2]? = rs[j]?.map fun r => Value.int .i32 r.1 := by
  induction rs generalizing j with
  | nil => simp [cellsOf]
  | cons r t ih =>
    cases j with
    | zero => simp [cellsOf]
    | succ j => rw [show (j + 1) * 2 = j * 2 + 1 + 1 from by omega]; simp only [cellsOf, List.getElem?_cons_succ]; exact ih j
theorem cellsOf_hi (rs : List Rg) (j : Nat) : (cellsOf rs)[j * 2 + 1]? = rs[j]?.map fun r => Value.int .i32 r.2 := by
  induction rs generalizing j with
  | nil => simp [cellsOf]
  | cons r t ih =>
    cases j with
    | zero => simp [cellsOf]
    | succ j => rw [show (j + 1) * 2 + 1 = j * 2 + 1 + 1 + 1 from by omega]; simp only [cellsOf, List.getElem?_cons_succ]; exact ih j

theorem cells_are {xs : List Value} {L H : Nat → Int} {n : Nat} (hl : xs.length = n * 2) (h : ∀ j, j < n → xs[j * 2]? = some (.int .i32 (L j)) ∧ xs[j * 2 + 1]? = some (.int .i32 (H j))) : xs = cellsOf (pairs L H n) := by
  apply List.ext_getElem?
  intro i
  by_cases hi : i < n * 2
  · have hj : i / 2 < n := by omega
    obtain ⟨h1, h2⟩ := h (i / 2) hj
    rcases Nat.mod_two_eq_zero_or_one i with e | e
    · have ei : i = i / 2 * 2 := by omega
      rw [ei, cellsOf_lo, pairs_at? L H n _ hj]
      exact h1
    · have ei : i = i / 2 * 2 + 1 := by omega
      rw [ei, cellsOf_hi, pairs_at? L H n _ hj]
      exact h2
  · rw [List.getElem?_eq_none (by omega), List.getElem?_eq_none (by rw [cellsOf_length, pairs_length]; omega)]

theorem cellsOf_one (rs : List Rg) : ∀ u ∈ cellsOf rs, u.oneCell' = true := by
  induction rs with
  | nil => intro u h; cases h
  | cons r t ih =>
    intro u h
    simp only [cellsOf, List.mem_cons] at h
    rcases h with rfl | rfl | h
    · rfl
    · rfl
    · exact ih u h

/-- A value that owns a row is a slice of its length. -/
theorem ownsRow_slice {w : World} {base e size n : Nat} {v : Value} {xs : List Value} (h : w.ownsRow base e size v n xs) : ∃ a c, v = .slice a n c := by
  rcases h.2 with ⟨rfl, rfl⟩ | ⟨g, cap, cur, rfl, _⟩
  · exact ⟨_, _, rfl⟩
  · exact ⟨_, _, rfl⟩

set_option maxHeartbeats 400000 in
theorem byLoLen_any (a : Option Addr) (n c : Nat) (w : World) :
    Calls Try.prog 21 #[.slice a n c] w fun e w' => e = .returned (.int .i64 n) ∧ w' = w := by
  go_enter Try.func21, Try.ntmps21
  go_wp2
  go_ret
  exact ⟨rfl, rfl⟩

theorem own_below {w w' : World} {base B e size n : Nat} {v : Value} {xs : List Value} (h : w.ownsRow base e size v n xs) (hb : Below B w w') (hB : ∀ k, v.ownBlock = some k → k < B) : w'.ownsRow base e size v n xs := by
  obtain ⟨h1, h2⟩ := h
  refine ⟨h1, ?_⟩
  rcases h2 with h2 | ⟨g, cap, cur, rfl, hg, hh, r⟩
  · exact .inl h2
  · exact .inr ⟨g, cap, cur, rfl, hg, (hb.block g (hB g rfl)).trans hh, r⟩

theorem comp_at (nx : Int) (rs : List Rg) (k : Nat) (r : Rg) (h : rs[k]? = some r) : comp nx (rs.drop k) = (if nx < r.1 then [(nx, r.1 - 1)] else []) ++ comp (r.2 + 1) (rs.drop (k + 1)) := by
  have hk : k < rs.length := (List.getElem?_eq_some_iff.1 h).1
  rw [List.drop_eq_getElem_cons hk]
  have e : rs[k] = r := (List.getElem?_eq_some_iff.1 h).2
  rw [e]; rfl

theorem two_newest (w : World) (a b : Value) : ∀ (j : Nat) (u : Value), [a, b][j]? = some u → (w.alloc (.cells #[a, b] 40)).cell? ((⟨w.heap.size, 0, none⟩ : Addr).add j) = some u := by
  intro j u hj
  match j, hj with
  | 0, hj => simp at hj; subst hj; simp [Addr.add]
  | 1, hj => simp at hj; subst hj; simp [Addr.add]
theorem two_new (w : World) (o : Obj) (a b : Value) : ∀ (j : Nat) (u : Value), [a, b][j]? = some u → ((w.alloc o).alloc (.cells #[a, b] 40)).cell? ((⟨w.heap.size + 1, 0, none⟩ : Addr).add j) = some u := by
  have := two_newest (w.alloc o) a b
  rw [World.size_alloc] at this
  exact this

/-- What stands behind 'out = append(out, r)' in a round that laid its own variable first. -/
theorem appended {w wr w1 : World} {v v' : Value} {acc : List Rg} {a b x y : Int} (hown : wr.ownsRow w.heap.size 40 2 v acc.length (cellsOf acc)) (HB : Below w.heap.size w wr)
    (hown1 : w1.ownsRow w.heap.size 40 2 v' (acc.length + 1) (cellsOf acc ++ [.int .i32 a, .int .i32 b]))
    (hgrow : ((wr.alloc (.cells #[.int .i32 x, .int .i32 y] 40)).alloc (.cells #[.int .i32 a, .int .i32 b] 40)).grownBy w1 v.ownBlock) :
    w1.cell? ⟨wr.heap.size, 0, none⟩ = some (.int .i32 x) ∧ w1.cell? ⟨wr.heap.size, 1, none⟩ = some (.int .i32 y) ∧ w1.ownsRow w.heap.size 40 2 v' (acc ++ [(a, b)]).length (cellsOf (acc ++ [(a, b)])) ∧ Hid (Below w.heap.size w w1) := by
  have hs := HB.size
  have hne : some wr.heap.size ≠ v.ownBlock := fun e => absurd (hown.lt _ e.symm).2 (Nat.lt_irrefl _)
  refine ⟨hgrow.cell ?_ hne, hgrow.cell ?_ hne, ?_, ((HB.alloc hs _).alloc (by simp; omega) _).grown hgrow (by simp; omega) (fun q e => (hown.lt q e).1)⟩
  · simp
  · simp
  · rw [cellsOf_append, List.length_append]
    exact hown1

set_option maxHeartbeats 1000000 in
theorem compl_any (g n cap base : Nat) (rs : List Rg) (hl : rs.length = n) (hn : n ≤ 65536) (hr : ∀ (j : Nat) (r : Rg), rs[j]? = some r → 0 ≤ r.1 ∧ r.1 ≤ 1114111 ∧ 0 ≤ r.2 ∧ r.2 ≤ 1114111) (w : World)
    (hown : w.ownsRow base 40 2 (.slice (some ⟨g, 0, none⟩) n cap) n (cellsOf rs)) (hg : g < w.heap.size) :
    Calls Try.prog 22 #[.slice (some ⟨g, 0, none⟩) n cap] w fun e w' => ∃ v, e = .returned v ∧ w'.ownsRow w.heap.size 40 2 v (comp 0 rs).length (cellsOf (comp 0 rs)) ∧ Below w.heap.size w w' := by
  obtain ⟨i0, hi, hz0, hz1, hz2⟩ := info_parts Try.info40
  have HOWN : Hid (w.ownsRow base 40 2 (.slice (some ⟨g, 0, none⟩) n cap) n (cellsOf rs)) := hown
  have HR : Hid (∀ (j : Nat) (r : Rg), rs[j]? = some r → 0 ≤ r.1 ∧ r.1 ≤ 1114111 ∧ 0 ≤ r.2 ∧ r.2 ≤ 1114111) := hr
  have HLEN : Hid (rs.length = n) := hl
  clear hown hr hl
  go_enter Try.func22, Try.ntmps22
  go_wp2
  go_loopw [3, 4, 9] (fun vo vn vk wr => ∃ (k : Nat) (acc : List Rg) (nx : Int), k ≤ n ∧ vk = .int .i64 k ∧ vn = .int .i32 nx ∧ 0 ≤ nx ∧ nx ≤ 1114112 ∧ acc.length ≤ k ∧
      wr.ownsRow w.heap.size 40 2 vo acc.length (cellsOf acc) ∧ Hid (Below w.heap.size w wr) ∧ Hid (acc ++ comp nx (rs.drop k) = comp 0 rs)) (fun _ _ vk _ => n - (intOf vk).toNat)
  case atStart => exact ⟨0, [], 0, Nat.zero_le _, rfl, rfl, by omega, by omega, Nat.le_refl _, World.ownsRow_nil _ _ _ _, Below.refl _ _, rfl⟩
  case round =>
    obtain ⟨k, acc, nx, hk, rfl, rfl, hx0, hx1, hak, hown, HB, HE⟩ := hrel
    by_cases hlt : k < n
    · obtain ⟨⟨x, y⟩, hxy⟩ : ∃ r, rs[k]? = some r := ⟨_, List.getElem?_eq_getElem (by rw [HLEN.out]; exact hlt)⟩
      obtain ⟨bx0, bx1, by0, by1⟩ := HR.out k _ hxy
      dsimp only at bx0 bx1 by0 by1
      have HE2 : Hid (acc ++ ((if nx < x then [(nx, x - 1)] else []) ++ comp (y + 1) (rs.drop (k + 1))) = comp 0 rs) := by
        have := HE.out; rw [comp_at nx rs k _ hxy] at this; exact this
      have gx : wr.cell? ⟨g, k * 2, none⟩ = some (.int .i32 x) := by
        rw [HB.out.cell (p := ⟨g, k * 2, none⟩) hg, HOWN.out.cellAt (k * 2) (by omega), cellsOf_lo, hxy]; rfl
      have gy : wr.cell? ⟨g, k * 2 + 1, none⟩ = some (.int .i32 y) := by
        rw [HB.out.cell (p := ⟨g, k * 2 + 1, none⟩) hg, HOWN.out.cellAt (k * 2 + 1) (by omega), cellsOf_hi, hxy]; rfl
      have hsz := HB.out.size
      clear hxy HE
      by_cases hc : nx < x
      · go_wp2_with (at_builtin; refine wpList_append_own _ rfl _ _ 34 rfl w.heap.size 40 i0 _ 2 8 Try.under34 hi hz0 hz1 hz2 rfl (by decide) _ _ _ rfl ((hown.alloc _).alloc _) ⟨wr.heap.size + 1, 0, none⟩ 1 1 [.int .i32 nx, .int .i32 (x - 1)] rfl rfl ?c1 ?c2 ?c3 ?c4 ?c5 ?_)
        case c1 => exact two_new wr _ _ _
        case c2 =>
          intro u hu
          simp only [List.mem_cons, List.not_mem_nil, or_false] at hu
          rcases hu with rfl | rfl <;> rfl
        case c3 => unfold maxLen; omega
        case c4 => omega
        case c5 => simp; omega
        · intro v' w1 hown1 hgrow1 _
          have R := appended hown HB.out hown1 hgrow1
          obtain ⟨a1, c1, rfl⟩ := ownsRow_slice hown1
          have HE3 : Hid ((acc ++ [(nx, x - 1)]) ++ comp (y + 1) (rs.drop (k + 1)) = comp 0 rs) := by
            have := HE2.out; rw [if_pos hc] at this; show _ = _; rw [List.append_assoc]; exact this
          clear hown1 hgrow1 hown gx gy HE2 HB
          obtain ⟨R1, R2, R3, R4⟩ := R
          go_wp2
          go_roundw
          case rel => exact ⟨k + 1, acc ++ [(nx, x - 1)], y + 1, by omega, by go_num, by go_num, by omega, by omega, by simp; omega, R3, R4, HE3⟩
          case measure => simp [intOf]; omega
      · have HE3 : Hid (acc ++ comp (y + 1) (rs.drop (k + 1)) = comp 0 rs) := by
          have := HE2.out; rw [if_neg hc] at this; exact this
        have R4 : Hid (Below w.heap.size w (wr.alloc (.cells #[.int .i32 x, .int .i32 y] 40))) := HB.out.alloc hsz _
        have R3 := hown.alloc (.cells #[.int .i32 x, .int .i32 y] 40)
        clear HE2 HB hown
        go_wp2
        go_roundw
        case rel => exact ⟨k + 1, acc, y + 1, by omega, by go_num, by go_num, by omega, by omega, by omega, R3, R4, HE3⟩
        case measure => simp [intOf]; omega
    · have hkn : n ≤ k := by omega
      have HE2 : Hid (acc ++ (if nx ≤ 1114111 then [(nx, 1114111)] else []) = comp 0 rs) := by
        have := HE.out; rw [List.drop_of_length_le (by rw [HLEN.out]; omega)] at this; exact this
      have hsz := HB.out.size
      clear HE
      by_cases hc : nx ≤ 1114111
      · go_wp2_with (at_builtin; refine wpList_append_own _ rfl _ _ 34 rfl w.heap.size 40 i0 _ 2 8 Try.under34 hi hz0 hz1 hz2 rfl (by decide) _ _ _ rfl (hown.alloc _) ⟨wr.heap.size, 0, none⟩ 1 1 [.int .i32 nx, .int .i32 1114111] rfl rfl ?d1 ?d2 ?d3 ?d4 ?d5 ?_)
        case d1 => exact two_newest wr _ _
        case d2 =>
          intro u hu
          simp only [List.mem_cons, List.not_mem_nil, or_false] at hu
          rcases hu with rfl | rfl <;> rfl
        case d3 => unfold maxLen; omega
        case d4 => omega
        case d5 => simp; omega
        · intro v' w1 hown1 hgrow1 _
          have HE3 : Hid (acc ++ [(nx, 1114111)] = comp 0 rs) := by
            have := HE2.out; rw [if_pos hc] at this; exact this
          have R4 : Hid (Below w.heap.size w w1) := (HB.out.alloc hsz _).grown hgrow1 (by simp; omega) (fun q e => (hown.lt q e).1)
          have R3 : Hid (w1.ownsRow w.heap.size 40 2 v' (comp 0 rs).length (cellsOf (comp 0 rs))) := by
            have e := HE3.out
            rw [← e]
            show w1.ownsRow _ _ _ _ _ _
            rw [cellsOf_append, List.length_append]
            exact hown1
          clear hown1 hgrow1 hown HE2 HB
          go_wp2
          go_ret
          exact ⟨_, rfl, R3.out, R4.out⟩
      · have HE3 : Hid (acc = comp 0 rs) := by
          have := HE2.out; rw [if_neg hc, List.append_nil] at this; exact this
        have R3 : Hid (wr.ownsRow w.heap.size 40 2 u3 (comp 0 rs).length (cellsOf (comp 0 rs))) := by
          rw [← HE3.out]; exact hown
        clear HE2 hown
        go_wp2
        go_ret
        exact ⟨_, rfl, R3.out, HB.out⟩
end Go.Proofs.Qxb6613004a
