/-
  THE WALK of FnByLoLenUnionWithComplementIsOne.
-/
import Derived.Test.Qxb6613004aGaps7
import Derived.Test.Qxb6613004aUnion24
namespace Go.Proofs.Qxb6613004a
open Go.RowKit
open Sets

/-- What an owned row lays out. -/
theorem lay_of_own {w : World} {base : Nat} {v : Value} {rs : List Rg} (h : w.ownsRow base 40 2 v rs.length (cellsOf rs)) : ∃ a c, v = .slice a rs.length c ∧ Lay w.heap.size w a c rs := by
  rcases h.2 with ⟨rfl, h0⟩ | ⟨g, cap, cur, rfl, hb, hg, hnc, hcm, hcs, htake⟩
  · refine ⟨none, 0, by rw [h0], by omega, fun _ => rfl, fun hp => by omega⟩
  · refine ⟨some ⟨g, 0, none⟩, cap, rfl, hnc, fun e => (by cases e), fun hp => ⟨g, 0, rfl, (Array.getElem?_eq_some_iff.1 hg).1, fun j r hj => ?_⟩⟩
    have hlt : j < rs.length := (List.getElem?_eq_some_iff.1 hj).1
    constructor
    · rw [Nat.zero_add, h.cellAt (j * 2) (by omega), cellsOf_lo, hj]; rfl
    · rw [Nat.zero_add, h.cellAt (j * 2 + 1) (by omega), cellsOf_hi, hj]; rfl

def InB (r : Rg) : Prop := 0 ≤ r.1 ∧ r.1 ≤ 1114111 ∧ 0 ≤ r.2 ∧ r.2 ≤ 1114111

theorem norm_in (p : Int) (hp : 0 ≤ p) (rs : List Rg) (h : Norm p rs) : ∀ r ∈ rs, InB r := by
  induction rs generalizing p with
  | nil => intro r hr; cases hr
  | cons a t ih =>
    obtain ⟨h1, h2, h3, h4⟩ := h
    intro r hr
    rcases List.mem_cons.1 hr with rfl | hr
    · exact ⟨by omega, by omega, by omega, h3⟩
    · exact ih (a.2 + 2) (by omega) h4 r hr

theorem comp_in (nx : Int) (h0 : 0 ≤ nx) (rs : List Rg) (h : ∀ r ∈ rs, InB r) : ∀ c ∈ comp nx rs, InB c := by
  induction rs generalizing nx with
  | nil =>
    intro c hc
    simp only [comp] at hc
    split at hc
    · simp at hc; subst hc; exact ⟨h0, by assumption, by simp, by simp⟩
    · simp at hc
  | cons r t ih =>
    intro c hc
    have hr := h r (by simp)
    simp only [comp, List.mem_append] at hc
    rcases hc with hc | hc
    · split at hc
      · simp at hc; subst hc
        obtain ⟨a, b, d, e⟩ := hr
        exact ⟨h0, by simp; omega, by simp; omega, by simp; omega⟩
      · simp at hc
    · exact ih (r.2 + 1) (by have := hr.2.2.1; omega) (fun r' hr' => h r' (by simp [hr'])) c hc

theorem mg_in {s t : List Rg} (hs : ∀ r ∈ s, InB r) (ht : ∀ r ∈ t, InB r) : ∀ (j : Nat) (r : Rg), (mg s t)[j]? = some r → 0 ≤ r.1 ∧ r.1 ≤ 1114111 ∧ 0 ≤ r.2 ∧ r.2 ≤ 1114111 := by
  intro j r hj
  have hm : r ∈ mg s t := List.mem_of_getElem? hj
  have : r ∈ s ∨ r ∈ t := by simpa [mg, List.mem_merge] using hm
  rcases this with h | h
  · exact hs r h
  · exact ht r h

set_option maxHeartbeats 400000 in
theorem zb23_yes (a0 a1 : Option Addr) (n0 n1 c0 c1 : Nat) (h : n0 + n1 ≤ 1048576) (w : World) :
    Calls Try.prog 23 #[.slice a0 n0 c0, .slice a1 n1 c1] w fun e w' => e = .returned (.bool true) ∧ w' = w := by
  go_enter Try.func23, Try.ntmps23
  go_wp2
  go_ret
  exact ⟨rfl, rfl⟩
set_option maxHeartbeats 400000 in
theorem zb23_no (a0 a1 : Option Addr) (n0 n1 c0 c1 : Nat) (h : 1048576 < n0 + n1) (h0 : (n0 : Int) ≤ 9223372036854775807) (h1 : (n1 : Int) ≤ 9223372036854775807) (w : World) :
    Calls Try.prog 23 #[.slice a0 n0 c0, .slice a1 n1 c1] w fun e w' => e = .returned (.bool false) ∧ w' = w := by
  by_cases a : 1048576 < n0
  · go_enter Try.func23, Try.ntmps23
    go_wp2
    go_ret
    exact ⟨rfl, rfl⟩
  by_cases b : 1048576 < n1
  · go_enter Try.func23, Try.ntmps23
    go_wp2
    go_ret
    exact ⟨rfl, rfl⟩
  · go_enter Try.func23, Try.ntmps23
    go_wp2
    go_ret
    exact ⟨rfl, rfl⟩

set_option maxHeartbeats 400000 in
theorem law8_long (a0 a1 : Option Addr) (n0 n1 c0 c1 : Nat) (h : 1048576 < n0 + n1) (h0 : (n0 : Int) ≤ 9223372036854775807) (h1 : (n1 : Int) ≤ 9223372036854775807) (w : World) :
    Calls Try.prog 8 #[.slice a0 n0 c0, .slice a1 n1 c1] w fun e w' => e = .returned (.bool true) ∧ Below w.heap.size w w' := by
  go_enter Try.func8, Try.ntmps8
  go_wp2_with fail
  refine (zb23_no a0 a1 n0 n1 c0 c1 h h0 h1 _).mono ?_
  rintro e w1 ⟨rfl, rfl⟩
  go_wp2
  go_ret
  exact ⟨rfl, Below.refl _ _⟩

set_option maxHeartbeats 400000 in
theorem law8_edge (a0 a1 : Option Addr) (n0 n1 c0 c1 : Nat) (h : n0 + n1 ≤ 1048576) (hc : 65536 < n0 ∨ (n0 ≤ 65536 ∧ 65536 < n1) ∨ (n0 ≤ 65536 ∧ n1 ≤ 65536 ∧ (n0 < n1 ∨ n1 < n0))) (w : World) :
    Calls Try.prog 8 #[.slice a0 n0 c0, .slice a1 n1 c1] w fun e w' => e = .returned (.bool true) ∧ Below w.heap.size w w' := by
  rcases hc with hc | ⟨hc, hd⟩ | ⟨hc, hd, he | he⟩
  all_goals
    go_enter Try.func8, Try.ntmps8
    go_wp2_with fail
    refine (zb23_yes a0 a1 n0 n1 c0 c1 h _).mono ?_
    rintro e w1 ⟨rfl, rfl⟩
    go_wp2
    go_ret
    exact ⟨rfl, Below.refl _ _⟩

/-- Union at a set that owns its row and at another, or at itself: what the law asks. -/
theorem union_own {w : World} {b0 b1 : Nat} {v0 v1 : Value} {rs ts : List Rg} (h0 : w.ownsRow b0 40 2 v0 rs.length (cellsOf rs)) (h1 : w.ownsRow b1 40 2 v1 ts.length (cellsOf ts))
    (hn : rs.length + ts.length ≤ 200000) (hr : ∀ r ∈ rs, InB r) (ht : ∀ r ∈ ts, InB r) :
    Calls Try.prog 24 #[v0, v1] w fun e w' => ∃ cap, e = .returned (.slice (some ⟨w.heap.size, 0, none⟩) (mrg (mg rs ts)).length cap) ∧ w'.ownsRow w.heap.size 40 2 (.slice (some ⟨w.heap.size, 0, none⟩) (mrg (mg rs ts)).length cap) (mrg (mg rs ts)).length (cellsOf (mrg (mg rs ts))) ∧ Below w.heap.size w w' := by
  obtain ⟨a0, c0, rfl, l0⟩ := lay_of_own h0
  obtain ⟨a1, c1, rfl, l1⟩ := lay_of_own h1
  exact union_any a0 a1 c0 c1 rs ts hn (mg_in hr ht) w l0 l1

/-- Behind zzSetOf: the rest of the law, at a world W in which the set s owns its row. -/
theorem law8_facts (rs : List Rg) (hN : Norm 0 rs) : (∀ r ∈ rs, InB r) ∧ (∀ r ∈ comp 0 rs, InB r) :=
  ⟨norm_in 0 (Int.le_refl _) rs hN, comp_in 0 (Int.le_refl _) rs (norm_in 0 (Int.le_refl _) rs hN)⟩

set_option maxHeartbeats 1000000 in
theorem law8_any (a0 a1 : Option Addr) (c0 c1 n : Nat) (rs : List Rg) (hrs : rs.length = n) (hn : n ≤ 65536) (w : World)
    (hnorm : Hid (Calls Try.prog 19 #[.slice a0 n c0, .slice a1 n c1] w fun e w' => (∃ b, e = .returned (.bool b) ∧ (b = true → Norm 0 rs)) ∧ Below w.heap.size w w'))
    (hset : Hid (∀ w1, Below w.heap.size w w1 → Calls Try.prog 20 #[.slice a0 n c0, .slice a1 n c1] w1 fun e w' => e = .returned (.slice (some ⟨w1.heap.size, 0, none⟩) n n) ∧ w'.ownsRow w1.heap.size 40 2 (.slice (some ⟨w1.heap.size, 0, none⟩) n n) n (cellsOf rs) ∧ Below w1.heap.size w1 w')) :
    Calls Try.prog 8 #[.slice a0 n c0, .slice a1 n c1] w fun e w' => e = .returned (.bool true) ∧ Below w.heap.size w w' := by
  have HLEN : Hid (rs.length = n) := hrs
  clear hrs
  have tn : ((n : Int) != (n : Int)) = false := by simp
  go_enter Try.func8, Try.ntmps8
  go_wp2_with fail
  refine (zb23_yes a0 a1 n n c0 c1 (by omega) _).mono ?_
  rintro e w0 ⟨rfl, rfl⟩
  go_wp2_with fail
  refine hnorm.out.mono ?_
  rintro e w1 ⟨⟨b, rfl, hb⟩, hb1⟩
  cases b with
  | false =>
    go_wp2
    go_ret
    exact ⟨rfl, hb1⟩
  | true =>
    have NP : Hid (Norm 0 rs) := hb rfl
    have HB1 : Hid (Below w0.heap.size w0 w1) := hb1
    have S1 := hb1.size
    clear hb hb1
    go_wp2_with fail
    refine (hset.out w1 HB1.out).mono ?_
    rintro e w2 ⟨rfl, hown, hb2⟩
    have hlt := (hown.lt _ rfl).2
    have HO : Hid (w2.ownsRow w1.heap.size 40 2 (.slice (some ⟨w1.heap.size, 0, none⟩) n n) n (cellsOf rs)) := hown
    have HB2 : Hid (Below w0.heap.size w0 w2) := HB1.out.trans (hb2.mono (by omega))
    clear hown hb2 hnorm hset HB1
    go_wp2_with fail
    refine (compl_any w1.heap.size n n w1.heap.size rs HLEN.out hn (fun j r h => norm_in 0 (Int.le_refl _) rs NP.out r (List.mem_of_getElem? h)) _ HO.out hlt).mono ?_
    rintro e w3 ⟨v, rfl, hown3, hb3⟩
    have HO3 : Hid (w3.ownsRow w1.heap.size 40 2 (.slice (some ⟨w1.heap.size, 0, none⟩) n n) n (cellsOf rs)) := own_below HO.out hb3 (fun k e => by cases e; exact hlt)
    have HC3 : Hid (w3.ownsRow w2.heap.size 40 2 v (comp 0 rs).length (cellsOf (comp 0 rs))) := hown3
    have HB3 : Hid (Below w0.heap.size w0 w3) := HB2.out.trans (hb3.mono (by omega))
    have S3 : w2.heap.size ≤ w3.heap.size := hb3.size
    clear hown3 hb3 HO HB2
    go_wp2_with fail
    refine (union_own (b0 := w1.heap.size) (b1 := w2.heap.size) (rs := rs) (ts := comp 0 rs) (by rw [HLEN.out]; exact HO3.out) HC3.out (by have := comp_le 0 rs; have := HLEN.out; omega) (law8_facts rs NP.out).1 (law8_facts rs NP.out).2).mono ?_
    rintro e w4 ⟨cap4, rfl, hown4, hb4⟩
    rw [mrg_cover rs NP.out] at hown4 ⊢
    have S4 : w3.heap.size ≤ w4.heap.size := hb4.size
    have HO4 : Hid (w4.ownsRow w1.heap.size 40 2 (.slice (some ⟨w1.heap.size, 0, none⟩) n n) n (cellsOf rs)) := own_below HO3.out hb4 (fun k e => by cases e; show w1.heap.size < w3.heap.size; omega)
    have HB4 : Hid (Below w0.heap.size w0 w4) := HB3.out.trans (hb4.mono (by omega))
    have u0 : w4.cell? ⟨w3.heap.size, 0, none⟩ = some (.int .i32 0) := hown4.cellAt 0 (by simp)
    have u1 : w4.cell? ⟨w3.heap.size, 1, none⟩ = some (.int .i32 1114111) := hown4.cellAt 1 (by simp)
    simp only [List.length_cons, List.length_nil, Nat.zero_add]
    clear hown4 hb4 HO3 HC3 HB3
    go_wp2_with fail
    refine (byLoLen_any _ _ _ _).mono ?_
    rintro e w5 ⟨rfl, rfl⟩
    go_wp2_with fail
    refine (union_own (b0 := w1.heap.size) (b1 := w1.heap.size) (rs := rs) (ts := rs) (by rw [HLEN.out]; exact HO4.out) (by rw [HLEN.out]; exact HO4.out) (by have := HLEN.out; omega) (law8_facts rs NP.out).1 (law8_facts rs NP.out).1).mono ?_
    rintro e w6 ⟨cap6, rfl, hown6, hb6⟩
    rw [mrg_self rs NP.out, HLEN.out]
    have HB6 : Hid (Below w0.heap.size w0 w6) := HB4.out.trans (hb6.mono (by omega))
    clear hown6 hb6 HO4 HB4
    go_wp2_with fail
    refine (byLoLen_any _ _ _ _).mono ?_
    rintro e w7 ⟨rfl, rfl⟩
    go_wp2
    go_ret
    exact ⟨ret_true (by simp), HB6.out⟩

theorem law8 (a0 : Option Addr) (len0 cap0 : Nat) (z0 : List Int) (a1 : Option Addr) (len1 cap1 : Nat) (z1 : List Int) (w : World) (w0 : IsRow .i32 w a0 len0 cap0 z0) (w1 : IsRow .i32 w a1 len1 cap1 z1) :
    Calls Try.prog 8 #[.slice a0 len0 cap0, .slice a1 len1 cap1] w fun e w' => e = .returned (.bool true) ∧ Below w.heap.size w w' := by
  by_cases a : 1048576 < len0 + len1
  · have := zb_arith w0.le w1.le
    exact law8_long a0 a1 len0 len1 cap0 cap1 a this.1 this.2 w
  by_cases b : 65536 < len0
  · exact law8_edge a0 a1 len0 len1 cap0 cap1 (by omega) (.inl b) w
  by_cases c : 65536 < len1
  · exact law8_edge a0 a1 len0 len1 cap0 cap1 (by omega) (.inr (.inl ⟨by omega, c⟩)) w
  by_cases d : len0 = len1
  · subst d
    by_cases e : len0 = 0
    · subst e
      refine law8_any a0 a1 cap0 cap1 0 [] rfl (by omega) w ?_ ?_
      · refine (norm_nil a0 a1 cap0 cap1 w).mono ?_
        rintro e w' ⟨rfl, rfl⟩
        exact ⟨⟨true, rfl, fun _ => trivial⟩, Below.refl _ _⟩
      · intro w1 _
        refine (setOf_zero a0 a1 cap0 cap1 w1).mono ?_
        rintro e w' ⟨rfl, h1, h2, h3⟩
        exact ⟨rfl, h1, h3⟩
    · obtain ⟨b0, o0, rfl, hb0, hc0⟩ := w0.at (by omega)
      obtain ⟨b1, o1, rfl, hb1, hc1⟩ := w1.at (by omega)
      refine law8_any _ _ cap0 cap1 len0 (pairs (fun j => z0.getD j 0) (fun j => z1.getD j 0) len0) (pairs_length _ _ _) (by omega) w ?_ ?_
      · refine (norm_any b0 o0 b1 o1 len0 cap0 cap1 (fun j => z0.getD j 0) (fun j => z1.getD j 0) (by omega) w hc0 hc1 hb0 hb1).mono ?_
        rintro e w' ⟨⟨b, rfl, h⟩, hb⟩
        exact ⟨⟨b, rfl, fun e => norm_pairs _ _ _ (h e)⟩, hb⟩
      · intro w1 hB
        refine (setOf_any b0 o0 b1 o1 len0 cap0 cap1 (fun j => z0.getD j 0) (fun j => z1.getD j 0) (by omega) w1 (fun k hk => (hB.cell (p := ⟨b0, o0 + k, none⟩) hb0).trans (hc0 k hk)) (fun k hk => (hB.cell (p := ⟨b1, o1 + k, none⟩) hb1).trans (hc1 k hk)) (by have := hB.size; omega) (by have := hB.size; omega)).mono ?_
        rintro e w' ⟨xs, rfl, hown, hxs, hb⟩
        rw [cells_are hown.1 hxs] at hown
        exact ⟨rfl, hown, hb⟩
  · exact law8_edge a0 a1 len0 len1 cap0 cap1 (by omega) (.inr (.inr ⟨by omega, by omega, by omega⟩)) w
end Go.Proofs.Qxb6613004a
