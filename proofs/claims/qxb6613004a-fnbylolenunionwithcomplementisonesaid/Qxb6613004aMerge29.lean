/-
  THE WALK of merge: it writes over its own argument's array.
-/
import Derived.Test.Qxb6613004aCompl
import Derived.Test.Qxb6613004aMrg
namespace Go.Proofs.Qxb6613004a
open Go.RowKit
open Sets

/-- 'append' WITHIN THE CAPACITY, with the whole row known behind it. -/
theorem wpList_append_exact {P : Program} (w : World) {ops : Array Oper} {rest : List Oper} {o : Oper} {a : Act} {Q : Exit → Act → World → Prop}
    (hg : o.guard = none) (s x : Operand) (t : TypeId) (hop : o.op = Op.call { callee := Callee.builtin Builtin.append, args := #[s, x], argTypes := #[t, t] })
    (e : TypeId) (i : TypeInfo) (size : Nat) (h1 : P.underlying t = some (.slice e)) (h2 : P.info? e = some i) (h4 : i.size = size)
    (g k cap : Nat) (cur : Array Value) (hs : a.eval s = .slice (some ⟨g, 0, none⟩) k cap) (hblk : w.heap[g]? = some (.cells cur e (0, 0)))
    (ad : Addr) (m c : Nat) (news : List Value) (hx : a.eval x = .slice (some ad) m c) (hn : news.length = m * size)
    (hc : ∀ j u, news[j]? = some u → w.cell? (ad.add j) = some u) (h1c : ∀ u ∈ news, u.oneCell' = true) (b1 : k + m ≤ cap) (b2 : k * size + news.length ≤ cur.size)
    (hK : wpList P ops Q rest (a.put o.dst (.slice (some ⟨g, 0, none⟩) (k + m) cap)) (w.setRow g (cur.toList.take (k * size) ++ news ++ cur.toList.drop (k * size + news.length)).toArray)) :
    wpList P ops Q (o :: rest) a w := by
  refine wpList_plain hg fun K hK' => ?_
  subst h4
  have hrun := run_append_room (P := P) w t o.type e i h1 h2 g k cap cur hblk ad m c news hn hc h1c b1 b2
  unfold Oper.wp
  simp [execOp, hop, resolve, invoke, builtin, hs, hx, hrun, Result.andThen]
  exact hK' _ _ (by rw [← List.append_assoc]; exact hK)

/-- Block g holds the row xs. -/
def Rw (w : World) (g : Nat) (xs : List Value) : Prop := w.heap[g]? = some (.cells xs.toArray 40 (0, 0))

theorem Rw.lt {w : World} {g : Nat} {xs : List Value} (h : Rw w g xs) : g < w.heap.size := (Array.getElem?_eq_some_iff.1 h).1
theorem Rw.cell {w : World} {g : Nat} {xs : List Value} (h : Rw w g xs) (j : Nat) : w.cell? ⟨g, j, none⟩ = xs[j]? := by
  unfold Rw at h
  simp [World.cell?, h]
theorem Rw.free {w : World} {g : Nat} {xs : List Value} (h : Rw w g xs) (j : Nat) : w.frozen? ⟨g, j, none⟩ = false := by
  unfold Rw at h
  simp [World.frozen?, h]
theorem Rw.alloc {w : World} {g : Nat} {xs : List Value} (h : Rw w g xs) (o : Obj) : Rw (w.alloc o) g xs := (Below.heap_alloc w o g h.lt).trans h
theorem Rw.drewN {w : World} {g : Nat} {xs : List Value} (h : Rw w g xs) (n : Nat) : Rw (w.drewN n) g xs := h
theorem Rw.setCell {w : World} {g : Nat} {xs : List Value} (h : Rw w g xs) (j : Nat) (u : Value) : Rw (w.setCell ⟨g, j, none⟩ u) g (xs.set j u) := by
  unfold Rw at h ⊢
  have := heap_setCell_same w g j xs.toArray 40 u h
  rw [this]
  simp
theorem Rw.setRow {w : World} {g : Nat} {xs ys : List Value} (h : Rw w g xs) : Rw (w.setRow g ys.toArray) g ys := by
  unfold Rw at h ⊢
  simp [World.setRow, Array.getElem?_modify, h]

/-- All but block g, of what was there at w, is as it was. -/
theorem setRow_grown (w : World) (g : Nat) (cs : Array Value) : w.grownBy (w.setRow g cs) (some g) :=
  ⟨rfl, rfl, rfl, by simp [World.setRow], fun k _ hk => by
    simp only [World.setRow, Array.getElem?_modify]
    rw [if_neg (fun e => hk (by rw [e]))]⟩
theorem setCell_grown (w : World) (g j : Nat) (u : Value) : w.grownBy (w.setCell ⟨g, j, none⟩ u) (some g) :=
  ⟨rfl, rfl, rfl, by simp, fun k _ hk => heap_setCell_other w ⟨g, j, none⟩ k u (fun e => hk (by simp [e]))⟩
theorem grown_trans {a b c : World} {row : Option Nat} (h : a.grownBy b row) (k : b.grownBy c row) : a.grownBy c row :=
  ⟨k.os.trans h.os, k.tape.trans h.tape, k.output.trans h.output, Nat.le_trans h.size k.size, fun i hi hr => (k.block i (Nat.lt_of_lt_of_le hi h.size) hr).trans (h.block i hi hr)⟩
theorem grownBy_drewN {a b : World} {row : Option Nat} (h : a.grownBy b row) (n : Nat) : a.grownBy (b.drewN n) row := ⟨h.os, h.tape, h.output, h.size, h.block⟩

/-- merge's invariant: k ranges have been read, acc has been written over the row's head, the rest still lies. -/
structure Inv (rs : List Rg) (n cap k : Nat) (acc : List Rg) (xs : List Value) : Prop where
  len : xs.length = cap * 2
  ncap : n ≤ cap
  le : acc.length ≤ k
  head : xs.take (acc.length * 2) = cellsOf acc
  tail : ∀ (j : Nat) (r : Rg), k ≤ j → rs[j]? = some r → xs[j * 2]? = some (.int .i32 r.1) ∧ xs[j * 2 + 1]? = some (.int .i32 r.2)

theorem Inv.last {rs : List Rg} {n cap k : Nat} {done : List Rg} {cur : Rg} {xs : List Value} (h : Inv rs n cap k (done ++ [cur]) xs) :
    xs[done.length * 2]? = some (.int .i32 cur.1) ∧ xs[done.length * 2 + 1]? = some (.int .i32 cur.2) := by
  have hh := h.head
  have e1 : (cellsOf (done ++ [cur]))[done.length * 2]? = some (.int .i32 cur.1) := by rw [cellsOf_lo]; simp
  have e2 : (cellsOf (done ++ [cur]))[done.length * 2 + 1]? = some (.int .i32 cur.2) := by rw [cellsOf_hi]; simp
  rw [← hh, List.getElem?_take] at e1 e2
  rw [if_pos (by simp)] at e1
  rw [if_pos (by simp; omega)] at e2
  exact ⟨e1, e2⟩

/-- A range that lies within the last one. -/
theorem Inv.skip {rs : List Rg} {n cap k : Nat} {acc : List Rg} {xs : List Value} (h : Inv rs n cap k acc xs) : Inv rs n cap (k + 1) acc xs :=
  ⟨h.len, h.ncap, by have := h.le; omega, h.head, fun j r hj => h.tail j r (by omega)⟩

/-- A range that carries the last one on. -/
theorem Inv.widen {rs : List Rg} {n cap k : Nat} {done : List Rg} {cur : Rg} {xs : List Value} (h : Inv rs n cap k (done ++ [cur]) xs) (y : Int) :
    Inv rs n cap (k + 1) (done ++ [(cur.1, y)]) (xs.set (done.length * 2 + 1) (.int .i32 y)) := by
  have hle := h.le
  simp at hle
  refine ⟨by simp [h.len], h.ncap, by simp; omega, ?_, fun j r hj hr => ?_⟩
  · have hh := h.head
    have lx := h.last
    have lt : done.length * 2 + 1 < xs.length := (List.getElem?_eq_some_iff.1 lx.2).1
    rw [cellsOf_append] at hh ⊢
    have e1 : ((done ++ [(cur.1, y)]).length * 2) = done.length * 2 + 2 := by simp; omega
    have e2 : ((done ++ [cur]).length * 2) = done.length * 2 + 2 := by simp; omega
    rw [e1]; rw [e2] at hh
    rw [List.take_set, hh]
    have lc : (cellsOf done).length = done.length * 2 := cellsOf_length done
    rw [List.set_append_right _ _ (by omega), lc]
    simp [cellsOf, show done.length * 2 + 1 - done.length * 2 = 1 from by omega]
  · have := h.tail j r (by omega) hr
    rw [List.getElem?_set_ne (by omega), List.getElem?_set_ne (by omega)]
    exact this

/-- A range of its own. -/
theorem Inv.push {rs : List Rg} {n cap k : Nat} {acc : List Rg} {xs : List Value} (h : Inv rs n cap k acc xs) (hk : k < n) (x y : Int) :
    Inv rs n cap (k + 1) (acc ++ [(x, y)]) (xs.take (acc.length * 2) ++ [.int .i32 x, .int .i32 y] ++ xs.drop (acc.length * 2 + 2)) := by
  have hle := h.le
  have hn := h.ncap
  have hl := h.len
  have lt : (xs.take (acc.length * 2)).length = acc.length * 2 := by rw [List.length_take]; omega
  refine ⟨by simp; omega, h.ncap, by simp; omega, ?_, fun j r hj hr => ?_⟩
  · rw [cellsOf_append, ← h.head]
    have e1 : ((acc ++ [(x, y)]).length * 2) = acc.length * 2 + 2 := by simp; omega
    rw [e1, List.take_append_of_le_length (by simp; omega), List.take_of_length_le (by simp; omega)]
    rfl
  · have := h.tail j r (by omega) hr
    have key : ∀ i, acc.length * 2 + 2 ≤ i → (xs.take (acc.length * 2) ++ [.int .i32 x, .int .i32 y] ++ xs.drop (acc.length * 2 + 2))[i]? = xs[i]? := by
      intro i hi
      rw [List.getElem?_append_right (by simp; omega), List.getElem?_drop]
      congr 1
      simp; omega
    rw [key _ (by omega), key _ (by omega)]
    exact this

theorem mf_at (done : List Rg) (cur : Rg) (rs : List Rg) (k : Nat) (r : Rg) (h : rs[k]? = some r) :
    mf done cur (rs.drop k) = if r.1 ≤ cur.2 + 1 then mf done (cur.1, if cur.2 < r.2 then r.2 else cur.2) (rs.drop (k + 1)) else mf (done ++ [cur]) r (rs.drop (k + 1)) := by
  have hk : k < rs.length := (List.getElem?_eq_some_iff.1 h).1
  rw [List.drop_eq_getElem_cons hk]
  have e : rs[k] = r := (List.getElem?_eq_some_iff.1 h).2
  rw [e]; rfl


theorem ret_slice {a : Option Addr} {n m c : Nat} (h : n = m) : Ending.returned (.slice a n c) = .returned (.slice a m c) := by rw [h]

theorem two_one (a b : Int) : ∀ u ∈ [Value.int .i32 a, Value.int .i32 b], u.oneCell' = true := by
  intro u hu
  simp only [List.mem_cons, List.not_mem_nil, or_false] at hu
  rcases hu with rfl | rfl <;> rfl

theorem step_world {w wr : World} {g nq : Nat} {xs ys : List Value} {A B : Obj} (h : Rw wr g xs) (hg : w.grownBy wr (some g)) :
    Hid (Rw ((((wr.alloc A).drewN nq).alloc B).setRow g ys.toArray) g ys) ∧ Hid (w.grownBy ((((wr.alloc A).drewN nq).alloc B).setRow g ys.toArray) (some g)) :=
  ⟨(((h.alloc A).drewN nq).alloc B).setRow, grown_trans (grown_trans (grownBy_drewN (grown_trans hg (World.grownBy_alloc _ _ _)) nq) (World.grownBy_alloc _ _ _)) (setRow_grown _ _ _)⟩

set_option maxHeartbeats 1000000 in
theorem merge_core (g n cap : Nat) (rs : List Rg) (hn : n ≤ 200000) (hr : ∀ (j : Nat) (r : Rg), rs[j]? = some r → 0 ≤ r.1 ∧ r.1 ≤ 1114111 ∧ 0 ≤ r.2 ∧ r.2 ≤ 1114111) (hl : rs.length = n) (xs0 : List Value) (w : World)
    (hrow : Rw w g xs0) (hinv : Inv rs n cap 0 [] xs0) (hcap : cap ≤ maxLen) :
    Calls Try.prog 29 #[.slice (some ⟨g, 0, none⟩) n cap] w fun e w' => ∃ xs, e = .returned (.slice (some ⟨g, 0, none⟩) (mrg rs).length cap) ∧ Rw w' g xs ∧ xs.length = cap * 2 ∧ (mrg rs).length ≤ cap ∧ xs.take ((mrg rs).length * 2) = cellsOf (mrg rs) ∧ w.grownBy w' (some g) := by
  obtain ⟨i0, hi, hz0, hz1, hz2⟩ := info_parts Try.info40
  have HR : Hid (∀ (j : Nat) (r : Rg), rs[j]? = some r → 0 ≤ r.1 ∧ r.1 ≤ 1114111 ∧ 0 ≤ r.2 ∧ r.2 ≤ 1114111) := hr
  have HLEN : Hid (rs.length = n) := hl
  have HROW : Hid (Rw w g xs0) := hrow
  have HI : Hid (Inv rs n cap 0 [] xs0) := hinv
  have hlt0 := hrow.lt
  unfold maxLen at hcap
  clear hrow hinv hr hl
  go_enter Try.func29, Try.ntmps29
  go_wp2_with fail
  go_loopw [3, 11] (fun vo vk wr => ∃ (k : Nat) (acc : List Rg) (xs : List Value), k ≤ n ∧ vk = .int .i64 k ∧ vo = .slice (some ⟨g, 0, none⟩) acc.length cap ∧ Hid (Rw wr g xs) ∧ Hid (Inv rs n cap k acc xs) ∧ Hid (w.grownBy wr (some g)) ∧
      Hid ((k = 0 ∧ acc = []) ∨ ∃ done cur, acc = done ++ [cur] ∧ mf done cur (rs.drop k) = mrg rs ∧ 0 ≤ cur.2 ∧ cur.2 ≤ 1114111)) (fun _ vk _ => n - (intOf vk).toNat)
  case atStart => exact ⟨0, [], xs0, Nat.zero_le _, rfl, rfl, HROW, HI, World.grownBy.refl _ _, .inl ⟨rfl, rfl⟩⟩
  case round =>
    clear HROW HI
    obtain ⟨k, acc, xs, hk, rfl, rfl, HW, HI, HG, HS⟩ := hrel
    have hgl := HW.out.lt
    by_cases hlt : k < n
    · obtain ⟨⟨x, y⟩, hxy⟩ : ∃ r, rs[k]? = some r := ⟨_, List.getElem?_eq_getElem (by rw [HLEN.out]; exact hlt)⟩
      obtain ⟨bx0, bx1, by0, by1⟩ := HR.out k _ hxy
      dsimp only at bx0 bx1 by0 by1
      obtain ⟨tx, ty⟩ := HI.out.tail k _ (Nat.le_refl _) hxy
      have gx : wr.cell? ⟨g, k * 2, none⟩ = some (.int .i32 x) := by rw [HW.out.cell]; exact tx
      have gy : wr.cell? ⟨g, k * 2 + 1, none⟩ = some (.int .i32 y) := by rw [HW.out.cell]; exact ty
      have hcn := HI.out.ncap
      have hle := HI.out.le
      have hxl := HI.out.len
      clear tx ty
      rcases HS.out with ⟨k0, rfl⟩ | ⟨done, cur, rfl, hmf, bc0, bc1⟩
      · have d0 : decide ((0 : Int) < ((0 : Nat) : Int)) = false := by decide
        have HM : Hid (mf [] (x, y) (rs.drop (k + 1)) = mrg rs) := by
          show _ = _
          subst k0
          cases rs with
          | nil => simp at hxy
          | cons a l => simp at hxy; subst hxy; rfl
        have hk0 : k ≤ 0 := by omega
        have HI2 : Hid (Inv rs n cap (k + 1) [(x, y)] (xs.take (0 * 2) ++ [.int .i32 x, .int .i32 y] ++ xs.drop (0 * 2 + 2))) := HI.out.push hlt x y
        clear k0 hxy HS
        simp only [List.length_nil]
        go_wp2_with fail
        go_quiet (fail)
        go_wp2_with (at_builtin; refine wpList_append_exact _ rfl _ _ 34 rfl 40 i0 2 Try.under34 hi hz1 g 0 cap xs.toArray rfl ?hb ⟨wr.heap.size + 1, 0, none⟩ 1 1 [.int .i32 x, .int .i32 y] rfl rfl ?c1 ?c2 ?c3 ?c4 ?_)
        case hb => exact ((HW.out.alloc _).drewN _).alloc _
        case c1 => exact two_new _ _ _ _
        case c2 => exact two_one _ _
        case c3 => omega
        case c4 => simp; omega
        · have W2 := step_world (A := .cells #[.int .i32 x, .int .i32 y] 40) (nq := nq) (B := .cells #[.int .i32 x, .int .i32 y] 40) HW.out HG.out (ys := xs.take (0 * 2) ++ [.int .i32 x, .int .i32 y] ++ xs.drop (0 * 2 + 2))
          clear HW HG HI
          go_wp2
          go_roundw
          case rel => exact ⟨k + 1, [(x, y)], _, by omega, by go_num, rfl, W2.1, HI2, W2.2, .inr ⟨[], (x, y), rfl, HM.out, by0, by1⟩⟩
          case measure => simp [intOf]; omega
      · obtain ⟨c1, c2⟩ := cur
        dsimp only at bc0 bc1
        obtain ⟨d, hd⟩ : ∃ d, done.length = d := ⟨_, rfl⟩
        have em : (done ++ [(c1, c2)]).length = d + 1 := by simp [hd]
        rw [em] at hle ⊢
        rw [mf_at done (c1, c2) rs k _ hxy] at hmf
        dsimp only at hmf
        have HMF : Hid ((if x ≤ c2 + 1 then mf done (c1, if c2 < y then y else c2) (rs.drop (k + 1)) else mf (done ++ [(c1, c2)]) (x, y) (rs.drop (k + 1))) = mrg rs) := hmf
        have HD : Hid (done.length = d) := hd
        have gl : ∀ (A : Obj) (q : Nat), ((wr.alloc A).drewN q).cell? ⟨g, d * 2 + 1, none⟩ = some (.int .i32 c2) := by
          intro A q
          rw [((HW.out.alloc A).drewN q).cell, ← hd]
          exact HI.out.last.2
        have gl0 : ∀ (A : Obj), (wr.alloc A).cell? ⟨g, d * 2 + 1, none⟩ = some (.int .i32 c2) := fun A => gl A 0
        have gf : ∀ (A : Obj) (q : Nat), ((wr.alloc A).drewN q).frozen? ⟨g, d * 2 + 1, none⟩ = false := by
          intro A q
          exact ((HW.out.alloc A).drewN q).free _
        have d0 : decide ((0 : Int) < ((d + 1 : Nat) : Int)) = true := decide_eq_true (by omega)
        have d1 : ((d + 1 : Nat) : Int) = (d : Int) + 1 := by omega
        have hdI : (d : Int) < (d : Int) + 1 := by omega
        clear hxy HS hmf hd
        by_cases ct : x ≤ c2 + 1
        · have dt : decide (x ≤ c2 + 1) = true := decide_eq_true ct
          by_cases cy : c2 < y
          · have dy : decide (c2 < y) = true := decide_eq_true cy
            have HI2 : Hid (Inv rs n cap (k + 1) (done ++ [(c1, y)]) (xs.set (d * 2 + 1) (.int .i32 y))) := by
              have := HI.out.widen y; rw [HD.out] at this; exact this
            have HM2 : Hid (mf done (c1, y) (rs.drop (k + 1)) = mrg rs) := by
              have := HMF.out; rw [if_pos ct, if_pos cy] at this; exact this
            have em2 : Hid ((done ++ [(c1, y)]).length = d + 1) := by have := HD.out; show _ = _; simp [this]
            go_wp2_with fail
            go_quiet (fail)
            go_wp2_with fail
            go_quiet (fail)
            have W2 : Hid (∀ q, Rw (((wr.alloc (.cells #[.int .i32 x, .int .i32 y] 40)).drewN q).setCell ⟨g, d * 2 + 1, none⟩ (.int .i32 y)) g (xs.set (d * 2 + 1) (.int .i32 y))) := fun q => ((HW.out.alloc _).drewN q).setCell _ _
            have W3 : Hid (∀ q, w.grownBy (((wr.alloc (.cells #[.int .i32 x, .int .i32 y] 40)).drewN q).setCell ⟨g, d * 2 + 1, none⟩ (.int .i32 y)) (some g)) := fun q => grown_trans (grownBy_drewN (grown_trans HG.out (World.grownBy_alloc _ _ _)) q) (setCell_grown _ _ _ _)
            clear HW HG HI
            go_wp2
            go_roundw
            case rel => exact ⟨k + 1, done ++ [(c1, y)], _, by omega, by go_num, by rw [em2.out], W2.out _, HI2, W3.out _, .inr ⟨done, (c1, y), rfl, HM2.out, by0, by1⟩⟩
            case measure => simp [intOf]; omega
          · have dy : decide (c2 < y) = false := decide_eq_false cy
            have HI2 : Hid (Inv rs n cap (k + 1) (done ++ [(c1, c2)]) xs) := HI.out.skip
            have HM2 : Hid (mf done (c1, c2) (rs.drop (k + 1)) = mrg rs) := by
              have := HMF.out; rw [if_pos ct, if_neg cy] at this; exact this
            have em2 : Hid ((done ++ [(c1, c2)]).length = d + 1) := em
            clear em
            go_wp2_with fail
            go_quiet (fail)
            go_wp2_with fail
            go_quiet (fail)
            have W2 : Hid (∀ q, Rw ((wr.alloc (.cells #[.int .i32 x, .int .i32 y] 40)).drewN q) g xs) := fun q => (HW.out.alloc _).drewN q
            have W3 : Hid (∀ q, w.grownBy ((wr.alloc (.cells #[.int .i32 x, .int .i32 y] 40)).drewN q) (some g)) := fun q => grownBy_drewN (grown_trans HG.out (World.grownBy_alloc _ _ _)) q
            clear HW HG HI
            go_wp2
            go_roundw
            case rel => exact ⟨k + 1, done ++ [(c1, c2)], _, by omega, by go_num, by rw [em2.out], W2.out _, HI2, W3.out _, .inr ⟨done, (c1, c2), rfl, HM2.out, bc0, bc1⟩⟩
            case measure => simp [intOf]; omega
        · have dt : decide (x ≤ c2 + 1) = false := decide_eq_false ct
          have HI2 : Hid (Inv rs n cap (k + 1) ((done ++ [(c1, c2)]) ++ [(x, y)]) (xs.take ((d + 1) * 2) ++ .int .i32 x :: .int .i32 y :: xs.drop ((d + 1) * 2 + 2))) := by
            have := HI.out.push hlt x y; rw [em, List.append_assoc (xs.take ((d + 1) * 2))] at this; exact this
          have HM2 : Hid (mf (done ++ [(c1, c2)]) (x, y) (rs.drop (k + 1)) = mrg rs) := by
            have := HMF.out; rw [if_neg ct] at this; exact this
          have em2 : Hid (((done ++ [(c1, c2)]) ++ [(x, y)]).length = d + 1 + 1) := by show _ = _; rw [List.length_append, em]; rfl
          clear em
          go_wp2_with fail
          go_quiet (fail)
          go_wp2_with (at_builtin; refine wpList_append_exact _ rfl _ _ 34 rfl 40 i0 2 Try.under34 hi hz1 g (d + 1) cap xs.toArray rfl ?hb2 ⟨wr.heap.size + 1, 0, none⟩ 1 1 [.int .i32 x, .int .i32 y] rfl rfl ?e1 ?e2 ?e3 ?e4 ?_)
          case hb2 => exact ((HW.out.alloc _).drewN _).alloc _
          case e1 => exact two_new _ _ _ _
          case e2 => exact two_one _ _
          case e3 => omega
          case e4 => simp; omega
          · have W2 := step_world (A := .cells #[.int .i32 x, .int .i32 y] 40) (nq := nq) (B := .cells #[.int .i32 x, .int .i32 y] 40) HW.out HG.out (ys := xs.take ((d + 1) * 2) ++ .int .i32 x :: .int .i32 y :: xs.drop ((d + 1) * 2 + 2))
            clear HW HG HI gl gl0 gf
            go_wp2
            go_roundw
            case rel => exact ⟨k + 1, (done ++ [(c1, c2)]) ++ [(x, y)], _, by omega, by go_num, by rw [em2.out], W2.1, HI2, W2.2, .inr ⟨done ++ [(c1, c2)], (x, y), rfl, HM2.out, by0, by1⟩⟩
            case measure => simp [intOf]; omega
    · have HM : Hid (acc = mrg rs) := by
        show _ = _
        have hdr : rs.drop k = [] := List.drop_of_length_le (by rw [HLEN.out]; omega)
        rcases HS.out with ⟨k0, rfl⟩ | ⟨done, cur, rfl, hmf, _, _⟩
        · have : rs = [] := List.length_eq_zero_iff.1 (by rw [HLEN.out]; omega)
          rw [this]; rfl
        · rw [hdr] at hmf; exact hmf
      have hac : Hid (acc.length ≤ cap) := by have a := HI.out.le; have b := HI.out.ncap; show _ ≤ _; omega
      clear HS
      go_wp2
      go_ret
      refine ⟨xs, ?_, HW.out, HI.out.len, ?_, ?_, HG.out⟩
      · exact ret_slice (by rw [← HM.out])
      · rw [← HM.out]; exact hac.out
      · rw [← HM.out]; exact HI.out.head

/-- merge, over a row of the caller's own: the row's head is what merge makes; nothing else that was there has turned. -/
theorem merge_any (g n cap base : Nat) (rs : List Rg) (hn : n ≤ 200000) (hr : ∀ (j : Nat) (r : Rg), rs[j]? = some r → 0 ≤ r.1 ∧ r.1 ≤ 1114111 ∧ 0 ≤ r.2 ∧ r.2 ≤ 1114111) (hl : rs.length = n) (w : World)
    (hown : w.ownsRow base 40 2 (.slice (some ⟨g, 0, none⟩) n cap) n (cellsOf rs)) :
    Calls Try.prog 29 #[.slice (some ⟨g, 0, none⟩) n cap] w fun e w' => e = .returned (.slice (some ⟨g, 0, none⟩) (mrg rs).length cap) ∧ w'.ownsRow base 40 2 (.slice (some ⟨g, 0, none⟩) (mrg rs).length cap) (mrg rs).length (cellsOf (mrg rs)) ∧ w.grownBy w' (some g) := by
  rcases hown.2 with ⟨h', _⟩ | ⟨g', cap', cur, h', hb, hg, hnc, hcm, hcs, htake⟩
  · simp at h'
  · simp only [Value.slice.injEq, Option.some.injEq, Addr.mk.injEq, and_true, true_and] at h'
    obtain ⟨rfl, rfl⟩ := h'
    have hrow : Rw w g cur.toList := by unfold Rw; simpa using hg
    have hinv : Inv rs n cap 0 [] cur.toList := by
      refine ⟨by simpa using hcs, hnc, Nat.le_refl _, by simp [cellsOf], fun j r _ hj => ?_⟩
      have hjn : j < n := by have := (List.getElem?_eq_some_iff.1 hj).1; omega
      have e1 := cellsOf_lo rs j
      have e2 := cellsOf_hi rs j
      rw [← htake, List.getElem?_take, if_pos (by omega), hj] at e1 e2
      exact ⟨e1, e2⟩
    refine (merge_core g n cap rs hn hr hl cur.toList w hrow hinv hcm).mono ?_
    rintro e w' ⟨xs, rfl, hR, hxl, hml, hxt, hgr⟩
    refine ⟨rfl, ⟨cellsOf_length _, .inr ⟨g, cap, xs.toArray, rfl, hb, hR, hml, hcm, by simpa using hxl, by simpa using hxt⟩⟩, hgr⟩
end Go.Proofs.Qxb6613004a
