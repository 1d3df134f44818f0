/-
  THE WALK of FnByLoLenCountsComplementGaps.
-/
import Derived.Test.Qxb6613004aCompl
import Derived.OpenShut
namespace Go.Proofs.Qxb6613004a
open Go.RowKit
open Sets

set_option maxHeartbeats 400000 in
theorem setOf_zero (a0 a1 : Option Addr) (c0 c1 : Nat) (w : World) :
    Calls Try.prog 20 #[.slice a0 0 c0, .slice a1 0 c1] w fun e w' => e = .returned (.slice (some ⟨w.heap.size, 0, none⟩) 0 0) ∧
      w'.ownsRow w.heap.size 40 2 (.slice (some ⟨w.heap.size, 0, none⟩) 0 0) 0 [] ∧ w.heap.size < w'.heap.size ∧ Below w.heap.size w w' := by
  obtain ⟨i0, hi, hz0, hz1, hz2⟩ := info_parts Try.info40
  go_enter Try.func20, Try.ntmps20
  go_wp2_with (at_make; refine wpList_make_full _ rfl _ _ 34 rfl w.heap.size 40 i0 _ 2 Try.under34 hi hz0 hz1 .i64 .i64 0 0 0 rfl rfl rfl rfl ?_ ?_ (Nat.le_refl _) ?_; rotate_right; intro w1 hown1 hgrow1)
  case refine_1 => rw [hz2]; omega
  case refine_2 => unfold maxLen; omega
  have HB1 : Hid (Below w.heap.size w w1) := (Below.refl _ _).grown hgrow1 (Nat.le_refl _) (fun k e => by cases e)
  have HO1 : Hid (w1.ownsRow w.heap.size 40 2 (.slice (some ⟨w.heap.size, 0, none⟩) 0 0) 0 []) := by
    have : (madeCells (Value.agg #[.int .i32 0, .int .i32 0]).cells (0 * 2)).toList = [] := by simp [madeCells]
    rw [this] at hown1; exact hown1
  clear hown1 hgrow1
  refine wp_loop_rounds 1 ?_
  rw [rounds_succ]
  go_wp2
  go_ret
  exact ⟨rfl, HO1.out, (HO1.out.lt _ rfl).2, HB1.out⟩

theorem ret_true {b : Bool} (h : b = true) : Ending.returned (.bool b) = .returned (.bool true) := by rw [h]

theorem zb_arith {n0 n1 : Nat} (h0 : n0 ≤ maxLen) (h1 : n1 ≤ maxLen) : (n0 : Int) ≤ 9223372036854775807 ∧ (n1 : Int) ≤ 9223372036854775807 := by
  unfold maxLen at h0 h1; omega

set_option maxHeartbeats 400000 in
theorem zb18_yes (a0 a1 : Option Addr) (n0 n1 c0 c1 : Nat) (h : n0 + n1 ≤ 1048576) (w : World) :
    Calls Try.prog 18 #[.slice a0 n0 c0, .slice a1 n1 c1] w fun e w' => e = .returned (.bool true) ∧ w' = w := by
  go_enter Try.func18, Try.ntmps18
  go_wp2
  go_ret
  exact ⟨rfl, rfl⟩
set_option maxHeartbeats 400000 in
theorem zb18_no (a0 a1 : Option Addr) (n0 n1 c0 c1 : Nat) (h : 1048576 < n0 + n1) (h0 : (n0 : Int) ≤ 9223372036854775807) (h1 : (n1 : Int) ≤ 9223372036854775807) (w : World) :
    Calls Try.prog 18 #[.slice a0 n0 c0, .slice a1 n1 c1] w fun e w' => e = .returned (.bool false) ∧ w' = w := by
  by_cases a : 1048576 < n0
  · go_enter Try.func18, Try.ntmps18
    go_wp2
    go_ret
    exact ⟨rfl, rfl⟩
  by_cases b : 1048576 < n1
  · go_enter Try.func18, Try.ntmps18
    go_wp2
    go_ret
    exact ⟨rfl, rfl⟩
  · go_enter Try.func18, Try.ntmps18
    go_wp2
    go_ret
    exact ⟨rfl, rfl⟩

set_option maxHeartbeats 400000 in
theorem law7_long (a0 a1 : Option Addr) (n0 n1 c0 c1 : Nat) (h : 1048576 < n0 + n1) (h0 : (n0 : Int) ≤ 9223372036854775807) (h1 : (n1 : Int) ≤ 9223372036854775807) (w : World) :
    Calls Try.prog 7 #[.slice a0 n0 c0, .slice a1 n1 c1] w fun e w' => e = .returned (.bool true) ∧ Below w.heap.size w w' := by
  go_enter Try.func7, Try.ntmps7
  go_wp2_with fail
  refine (zb18_no a0 a1 n0 n1 c0 c1 h h0 h1 _).mono ?_
  rintro e w1 ⟨rfl, rfl⟩
  go_wp2
  go_ret
  exact ⟨rfl, Below.refl _ _⟩

set_option maxHeartbeats 400000 in
theorem law7_edge (a0 a1 : Option Addr) (n0 n1 c0 c1 : Nat) (h : n0 + n1 ≤ 1048576) (hc : 65536 < n0 ∨ (n0 ≤ 65536 ∧ 65536 < n1) ∨ (n0 ≤ 65536 ∧ n1 ≤ 65536 ∧ (n0 < n1 ∨ n1 < n0))) (w : World) :
    Calls Try.prog 7 #[.slice a0 n0 c0, .slice a1 n1 c1] w fun e w' => e = .returned (.bool true) ∧ Below w.heap.size w w' := by
  rcases hc with hc | ⟨hc, hd⟩ | ⟨hc, hd, he | he⟩
  all_goals
    go_enter Try.func7, Try.ntmps7
    go_wp2_with fail
    refine (zb18_yes a0 a1 n0 n1 c0 c1 h _).mono ?_
    rintro e w1 ⟨rfl, rfl⟩
    go_wp2
    go_ret
    exact ⟨rfl, Below.refl _ _⟩

set_option maxHeartbeats 400000 in
theorem law7_zero (a0 a1 : Option Addr) (c0 c1 : Nat) (w : World) :
    Calls Try.prog 7 #[.slice a0 0 c0, .slice a1 0 c1] w fun e w' => e = .returned (.bool true) ∧ Below w.heap.size w w' := by
  go_enter Try.func7, Try.ntmps7
  go_wp2_with fail
  refine (zb18_yes a0 a1 0 0 c0 c1 (by omega) _).mono ?_
  rintro e w1 ⟨rfl, rfl⟩
  go_wp2_with fail
  refine (norm_nil a0 a1 c0 c1 _).mono ?_
  rintro e w1 ⟨rfl, rfl⟩
  go_wp2_with fail
  refine (setOf_zero a0 a1 c0 c1 _).mono ?_
  rintro e w2 ⟨rfl, hown, hlt, hb⟩
  have HO : Hid (w2.ownsRow w1.heap.size 40 2 (.slice (some ⟨w1.heap.size, 0, none⟩) 0 0) 0 (cellsOf [])) := hown
  have HB : Hid (Below w1.heap.size w1 w2) := hb
  clear hown hb
  go_wp2_with fail
  refine (byLoLen_any _ _ _ _).mono ?_
  rintro e w3 ⟨rfl, rfl⟩
  go_wp2_with fail
  refine (compl_any w1.heap.size 0 0 w1.heap.size [] rfl (by omega) (fun j r h => by simp at h) _ HO.out hlt).mono ?_
  rintro e w4 ⟨v, rfl, hown4, hb4⟩
  obtain ⟨a4, c4, rfl⟩ := ownsRow_slice hown4
  have HB4 : Hid (Below w1.heap.size w1 w4) := HB.out.trans (hb4.mono (by omega))
  have e1 : (comp 0 ([] : List Rg)).length = 1 := rfl
  rw [e1]
  clear hown4 hb4 HO HB
  go_wp2_with fail
  refine (byLoLen_any _ _ _ _).mono ?_
  rintro e w5 ⟨rfl, rfl⟩
  go_wp2
  go_ret
  exact ⟨rfl, HB4.out⟩

set_option maxHeartbeats 1000000 in
theorem law7_main (b0 o0 b1 o1 n c0 c1 : Nat) (L H : Nat → Int) (hn : n ≤ 65536) (hpos : 0 < n) (w : World)
    (hc0 : ∀ k, k < n → w.cell? ⟨b0, o0 + k, none⟩ = some (.int .i32 (L k))) (hc1 : ∀ k, k < n → w.cell? ⟨b1, o1 + k, none⟩ = some (.int .i32 (H k)))
    (hb0 : b0 < w.heap.size) (hb1 : b1 < w.heap.size) :
    Calls Try.prog 7 #[.slice (some ⟨b0, o0, none⟩) n c0, .slice (some ⟨b1, o1, none⟩) n c1] w fun e w' => e = .returned (.bool true) ∧ Below w.heap.size w w' := by
  have HC0 : Hid (∀ k, k < n → w.cell? ⟨b0, o0 + k, none⟩ = some (.int .i32 (L k))) := hc0
  have HC1 : Hid (∀ k, k < n → w.cell? ⟨b1, o1 + k, none⟩ = some (.int .i32 (H k))) := hc1
  clear hc0 hc1
  go_enter Try.func7, Try.ntmps7
  go_wp2_with fail
  refine (zb18_yes _ _ n n c0 c1 (by omega) _).mono ?_
  rintro e w0 ⟨rfl, rfl⟩
  go_wp2_with fail
  refine (norm_any b0 o0 b1 o1 n c0 c1 L H hn _ HC0.out HC1.out hb0 hb1).mono ?_
  rintro e w1 ⟨⟨b, rfl, hb⟩, hbw1⟩
  cases b with
  | false =>
    go_wp2
    go_ret
    exact ⟨rfl, hbw1⟩
  | true =>
    have HN : Hid (∀ k, k < n → NormAt L H k) := hb rfl
    have HB1 : Hid (Below w0.heap.size w0 w1) := hbw1
    have S1 := hbw1.size
    clear hb hbw1
    go_wp2_with fail
    refine (setOf_any b0 o0 b1 o1 n c0 c1 L H hn _ (fun k hk => (HB1.out.cell (p := ⟨b0, o0 + k, none⟩) hb0).trans (HC0.out k hk)) (fun k hk => (HB1.out.cell (p := ⟨b1, o1 + k, none⟩) hb1).trans (HC1.out k hk)) (by omega) (by omega)).mono ?_
    rintro e w2 ⟨xs, rfl, hown, hxs, hb2⟩
    have exs := cells_are hown.1 hxs
    rw [exs] at hown
    have S2 := (hown.lt _ rfl).2
    have HO : Hid (w2.ownsRow w1.heap.size 40 2 (.slice (some ⟨w1.heap.size, 0, none⟩) n n) n (cellsOf (pairs L H n))) := hown
    have HB2 : Hid (Below w0.heap.size w0 w2) := HB1.out.trans (hb2.mono (by omega))
    have NP : Hid (Norm 0 (pairs L H n)) := norm_pairs L H n HN.out
    have HR : Hid (∀ (j : Nat) (r : Rg), (pairs L H n)[j]? = some r → 0 ≤ r.1 ∧ r.1 ≤ 1114111 ∧ 0 ≤ r.2 ∧ r.2 ≤ 1114111) := by
      intro j r hj
      have hlt : j < n := by have := (List.getElem?_eq_some_iff.1 hj).1; rwa [pairs_length] at this
      rw [pairs_at? L H n j hlt] at hj
      cases hj
      obtain ⟨h1, h2, h3, _⟩ := HN.out j hlt
      exact ⟨h1, by omega, by omega, h3⟩
    clear hown hxs hb2 exs HB1
    go_wp2_with fail
    refine (byLoLen_any _ _ _ _).mono ?_
    rintro e w3 ⟨rfl, rfl⟩
    have tn : ((n : Int) != (n : Int)) = false := by simp
    have tp : decide ((0 : Int) < (n : Int)) = true := decide_eq_true (by omega)
    have tp' : decide (0 < n) = true := decide_eq_true (by omega)
    obtain ⟨x, hx⟩ : ∃ x, L 0 = x := ⟨_, rfl⟩
    obtain ⟨y, hy⟩ : ∃ y, H (n - 1) = y := ⟨_, rfl⟩
    have gx : w3.cell? ⟨b0, o0, none⟩ = some (.int .i32 x) := by rw [← hx]; exact (HB2.out.cell (p := ⟨b0, o0, none⟩) hb0).trans (HC0.out 0 hpos)
    have gy : w3.cell? ⟨b1, o1 + (n - 1), none⟩ = some (.int .i32 y) := by rw [← hy]; exact (HB2.out.cell (p := ⟨b1, o1 + (n - 1), none⟩) hb1).trans (HC1.out (n - 1) (by omega))
    have HG : Hid (((comp 0 (pairs L H n)).length : Int) = (n : Int) + 1 - (if x = 0 then 1 else 0) - (if y = 1114111 then 1 else 0)) := by
      have := gaps L H n NP.out hpos; rw [hx, hy] at this; exact this
    have hk1I : (1 : Int) ≤ (n : Int) := by omega
    have hk0I : (0 : Int) < (n : Int) := by omega
    have hk2I : (n : Int) - 1 < (n : Int) := by omega
    clear hx hy HN
    obtain ⟨m, hm⟩ : ∃ m, (comp 0 (pairs L H n)).length = m := ⟨_, rfl⟩
    have HM : Hid ((comp 0 (pairs L H n)).length = m) := hm
    rw [hm] at HG
    clear hm
    by_cases cx : x = 0
    all_goals by_cases cy : y = 1114111
    · have tx : (x == 0) = true := beq_iff_eq.2 cx
      have ty : (y == 1114111) = true := beq_iff_eq.2 cy
      have HG2 : Hid ((m : Int) = (n : Int) + (-1)) := by have := HG.out; rw [if_pos cx, if_pos cy] at this; show _ = _; omega
      clear cx cy HG
      go_wp2_with fail
      refine (compl_any w1.heap.size n n w1.heap.size (pairs L H n) (pairs_length _ _ _) hn HR.out _ HO.out S2).mono ?_
      rintro e w4 ⟨v, rfl, hown4, hb4⟩
      rw [HM.out] at hown4
      obtain ⟨a4, c4, rfl⟩ := ownsRow_slice hown4
      have HB4 : Hid (Below w0.heap.size w0 w4) := HB2.out.trans (hb4.mono (by omega))
      clear hown4 hb4 HO HB2
      go_wp2_with fail
      refine (byLoLen_any _ _ _ _).mono ?_
      rintro e w5 ⟨rfl, rfl⟩
      go_wp2
      go_ret
      exact ⟨ret_true (beq_iff_eq.2 (by have := HG2.out; omega)), HB4.out⟩
    · have tx : (x == 0) = true := beq_iff_eq.2 cx
      have ty : (y == 1114111) = false := beq_eq_false_iff_ne.2 cy
      have HG2 : Hid ((m : Int) = (n : Int) + 0) := by have := HG.out; rw [if_pos cx, if_neg cy] at this; show _ = _; omega
      clear cx cy HG
      go_wp2_with fail
      refine (compl_any w1.heap.size n n w1.heap.size (pairs L H n) (pairs_length _ _ _) hn HR.out _ HO.out S2).mono ?_
      rintro e w4 ⟨v, rfl, hown4, hb4⟩
      rw [HM.out] at hown4
      obtain ⟨a4, c4, rfl⟩ := ownsRow_slice hown4
      have HB4 : Hid (Below w0.heap.size w0 w4) := HB2.out.trans (hb4.mono (by omega))
      clear hown4 hb4 HO HB2
      go_wp2_with fail
      refine (byLoLen_any _ _ _ _).mono ?_
      rintro e w5 ⟨rfl, rfl⟩
      go_wp2
      go_ret
      exact ⟨ret_true (beq_iff_eq.2 (by have := HG2.out; omega)), HB4.out⟩
    · have tx : (x == 0) = false := beq_eq_false_iff_ne.2 cx
      have ty : (y == 1114111) = true := beq_iff_eq.2 cy
      have HG2 : Hid ((m : Int) = (n : Int) + 0) := by have := HG.out; rw [if_neg cx, if_pos cy] at this; show _ = _; omega
      clear cx cy HG
      go_wp2_with fail
      refine (compl_any w1.heap.size n n w1.heap.size (pairs L H n) (pairs_length _ _ _) hn HR.out _ HO.out S2).mono ?_
      rintro e w4 ⟨v, rfl, hown4, hb4⟩
      rw [HM.out] at hown4
      obtain ⟨a4, c4, rfl⟩ := ownsRow_slice hown4
      have HB4 : Hid (Below w0.heap.size w0 w4) := HB2.out.trans (hb4.mono (by omega))
      clear hown4 hb4 HO HB2
      go_wp2_with fail
      refine (byLoLen_any _ _ _ _).mono ?_
      rintro e w5 ⟨rfl, rfl⟩
      go_wp2
      go_ret
      exact ⟨ret_true (beq_iff_eq.2 (by have := HG2.out; omega)), HB4.out⟩
    · have tx : (x == 0) = false := beq_eq_false_iff_ne.2 cx
      have ty : (y == 1114111) = false := beq_eq_false_iff_ne.2 cy
      have HG2 : Hid ((m : Int) = (n : Int) + 1) := by have := HG.out; rw [if_neg cx, if_neg cy] at this; show _ = _; omega
      clear cx cy HG
      go_wp2_with fail
      refine (compl_any w1.heap.size n n w1.heap.size (pairs L H n) (pairs_length _ _ _) hn HR.out _ HO.out S2).mono ?_
      rintro e w4 ⟨v, rfl, hown4, hb4⟩
      rw [HM.out] at hown4
      obtain ⟨a4, c4, rfl⟩ := ownsRow_slice hown4
      have HB4 : Hid (Below w0.heap.size w0 w4) := HB2.out.trans (hb4.mono (by omega))
      clear hown4 hb4 HO HB2
      go_wp2_with fail
      refine (byLoLen_any _ _ _ _).mono ?_
      rintro e w5 ⟨rfl, rfl⟩
      go_wp2
      go_ret
      exact ⟨ret_true (beq_iff_eq.2 (by have := HG2.out; omega)), HB4.out⟩

/-- WHAT THE WALK IS TOLD OF A SLICE OF INTEGERS THAT CAME IN: it is nil; or it leads to a row of 'cap' cells, the numbers 'zs' (the first 'len' are its elements, the rest its spare room), each fitting its kind. -/
def IsRow (k : IntKind) (w : World) (a : Option Addr) (len cap : Nat) (zs : List Int) : Prop :=
  (a = none ∧ len = 0 ∧ cap = 0 ∧ zs = []) ∨
  ∃ x, a = some x ∧ len ≤ cap ∧ cap ≤ maxLen ∧ zs.length = cap ∧ (∀ i, i < zs.length → w.cell? (x.add i) = some (.int k (zs.getD i 0))) ∧ ∀ n ∈ zs, (Lit.int k n).wf = true

theorem IsRow.le {k : IntKind} {w : World} {a : Option Addr} {len cap : Nat} {zs : List Int} (h : IsRow k w a len cap zs) : len ≤ maxLen := by
  rcases h with ⟨_, rfl, _⟩ | ⟨x, _, h1, h2, _⟩
  · exact Nat.zero_le _
  · exact Nat.le_trans h1 h2

theorem IsRow.at {k : IntKind} {w : World} {a : Option Addr} {len cap : Nat} {zs : List Int} (h : IsRow k w a len cap zs) (hp : 0 < len) :
    ∃ b off, a = some ⟨b, off, none⟩ ∧ b < w.heap.size ∧ ∀ j, j < len → w.cell? ⟨b, off + j, none⟩ = some (.int k (zs.getD j 0)) := by
  rcases h with ⟨_, h2, _⟩ | ⟨x, rfl, h1, h2, h3, h4, _⟩
  · omega
  · obtain ⟨b, off, rfl, hc⟩ := ints_at h4 (by omega)
    exact ⟨b, off, rfl, World.block_lt_of_cell? w _ (hc 0 (by omega)), fun j hj => hc j (by omega)⟩

theorem law7 (a0 : Option Addr) (len0 cap0 : Nat) (z0 : List Int) (a1 : Option Addr) (len1 cap1 : Nat) (z1 : List Int) (w : World) (w0 : IsRow .i32 w a0 len0 cap0 z0) (w1 : IsRow .i32 w a1 len1 cap1 z1) :
    Calls Try.prog 7 #[.slice a0 len0 cap0, .slice a1 len1 cap1] w fun e w' => e = .returned (.bool true) ∧ Below w.heap.size w w' := by
  by_cases a : 1048576 < len0 + len1
  · have := zb_arith w0.le w1.le
    exact law7_long a0 a1 len0 len1 cap0 cap1 a this.1 this.2 w
  by_cases b : 65536 < len0
  · exact law7_edge a0 a1 len0 len1 cap0 cap1 (by omega) (.inl b) w
  by_cases c : 65536 < len1
  · exact law7_edge a0 a1 len0 len1 cap0 cap1 (by omega) (.inr (.inl ⟨by omega, c⟩)) w
  by_cases d : len0 = len1
  · subst d
    by_cases e : len0 = 0
    · subst e
      exact law7_zero a0 a1 cap0 cap1 w
    · obtain ⟨b0, o0, rfl, hb0, hc0⟩ := w0.at (by omega)
      obtain ⟨b1, o1, rfl, hb1, hc1⟩ := w1.at (by omega)
      exact law7_main b0 o0 b1 o1 len0 cap0 cap1 (fun j => z0.getD j 0) (fun j => z1.getD j 0) (by omega) (by omega) w hc0 hc1 hb0 hb1
  · exact law7_edge a0 a1 len0 len1 cap0 cap1 (by omega) (.inr (.inr ⟨by omega, by omega, by omega⟩)) w
end Go.Proofs.Qxb6613004a
