/-
  THE WALK of Union.
-/
import Derived.Test.Qxb6613004aMerge29
import Derived.Deep.RegionHeld3
import Derived.Deep.RegionLaw
namespace Go.Proofs.Qxb6613004a
open Go.RowKit
open Sets

/-- 'append' within the capacity, as one step of a region that draws its order. -/
theorem step_append_fits {P : Program} {ops : Array Oper} {o : Oper} {a : Act} {w : World} {K : Act → World → Prop} {Q : Exit → Act → World → Prop} {E : Prop}
    (hg : o.guard = none) (s x : Operand) (t : TypeId) (hop : o.op = Op.call { callee := Callee.builtin Builtin.append, args := #[s, x], argTypes := #[t, t] })
    (base : Nat) (e : TypeId) (i : TypeInfo) (size : Nat) (h1 : P.underlying t = some (.slice e)) (h2 : P.info? e = some i) (h4 : i.size = size)
    (g k cap : Nat) (xs : List Value) (hs : a.eval s = .slice (some ⟨g, 0, none⟩) k cap) (hown : w.ownsRow base e size (.slice (some ⟨g, 0, none⟩) k cap) k xs) (ad : Addr) (m c : Nat) (news : List Value) (hx : a.eval x = .slice (some ad) m c) (hn : news.length = m * size)
    (hc : ∀ j u, news[j]? = some u → w.cell? (ad.add j) = some u) (h1c : ∀ u ∈ news, u.oneCell' = true) (b1 : k + m ≤ cap)
    (hK : ∀ w', w'.ownsRow base e size (.slice (some ⟨g, 0, none⟩) (k + m) cap) (k + m) (xs ++ news) → w.grownBy w' (some g) → K (a.put o.dst (.slice (some ⟨g, 0, none⟩) (k + m) cap)) w') :
    if Region.wanted o (yielded ops a.tmps) = true then Oper.wp P o a w K Q else E := by
  have hw : Region.wanted o (yielded ops a.tmps) = true := by simp [Region.wanted, hg]
  rw [if_pos hw]
  obtain ⟨w', hrun, r1, r2⟩ := run_append_fits (P := P) w base t o.type e i size h1 h2 h4 g k cap xs hown ad m c news hn hc h1c b1
  unfold Oper.wp
  simp [execOp, hop, resolve, invoke, builtin, hs, hx, hrun, Result.andThen]
  exact hK w' r1 r2

/-- A slice of ranges that lies below block B: the ranges are S. -/
structure Lay (B : Nat) (w : World) (a : Option Addr) (c : Nat) (S : List Rg) : Prop where
  le : S.length ≤ c
  nil : a = none → c = 0
  loc : 0 < S.length → ∃ g o, a = some ⟨g, o, none⟩ ∧ g < B ∧ ∀ (j : Nat) (r : Rg), S[j]? = some r → w.cell? ⟨g, o + j * 2, none⟩ = some (.int .i32 r.1) ∧ w.cell? ⟨g, o + j * 2 + 1, none⟩ = some (.int .i32 r.2)

theorem Lay.below {B : Nat} {w w' : World} {a : Option Addr} {c : Nat} {S : List Rg} (h : Lay B w a c S) (hb : Below B w w') : Lay B w' a c S :=
  ⟨h.le, h.nil, fun hp => by
    obtain ⟨g, o, e, hg, hc⟩ := h.loc hp
    exact ⟨g, o, e, hg, fun j r hj => ⟨(hb.cell (p := ⟨g, o + j * 2, none⟩) hg).trans (hc j r hj).1, (hb.cell (p := ⟨g, o + j * 2 + 1, none⟩) hg).trans (hc j r hj).2⟩⟩⟩

theorem Lay.rest {B : Nat} {w : World} {g o c : Nat} {r : Rg} {S : List Rg} (h : Lay B w (some ⟨g, o, none⟩) c (r :: S)) : Lay B w (if c = 1 then some ⟨g, o, none⟩ else some ⟨g, o + 2, none⟩) (c - 1) S := by
  have hle := h.le
  simp at hle
  refine ⟨by omega, fun e => (by split at e <;> cases e), fun hp => ?_⟩
  obtain ⟨g', o', e, hg, hc⟩ := h.loc (by simp)
  cases e
  rw [if_neg (by omega)]
  refine ⟨g, o + 2, rfl, hg, fun j r' hj => ?_⟩
  have := hc (j + 1) r' (by simpa using hj)
  rw [show o + (j + 1) * 2 = o + 2 + j * 2 from by omega] at this
  exact this

theorem pushed {w W w2 : World} {o : Obj} (hg : (W.alloc o).drew.grownBy w2 (some w.heap.size)) (hs : w.heap.size ≤ W.heap.size) : Below w.heap.size W w2 :=
  (((Below.refl _ _).alloc hs _).drew).grown hg (by simp; omega) (fun k e => by cases e; exact Nat.le_refl _)

theorem keep2 {W : World} {g o B : Nat} {x y : Value} {O : Obj} (h : W.cell? ⟨g, o, none⟩ = some x ∧ W.cell? ⟨g, o + 1, none⟩ = some y) (hg : g < B) (hB : B ≤ W.heap.size) :
    (W.alloc O).cell? ⟨g, o, none⟩ = some x ∧ (W.alloc O).cell? ⟨g, o + 1, none⟩ = some y := by
  have b : Below B W (W.alloc O) := (Below.refl _ _).alloc hB _
  exact ⟨(b.cell (p := ⟨g, o, none⟩) hg).trans h.1, (b.cell (p := ⟨g, o + 1, none⟩) hg).trans h.2⟩
theorem keep2b {w W w2 : World} {g o : Nat} {x y : Value} {O : Obj} (h : W.cell? ⟨g, o, none⟩ = some x ∧ W.cell? ⟨g, o + 1, none⟩ = some y) (hg : g < w.heap.size) (hB : w.heap.size ≤ W.heap.size)
    (hgr : (W.alloc O).drew.grownBy w2 (some w.heap.size)) :
    w2.cell? ⟨g, o, none⟩ = some x ∧ w2.cell? ⟨g, o + 1, none⟩ = some y := by
  have b : Below w.heap.size W w2 := pushed hgr hB
  exact ⟨(b.cell (p := ⟨g, o, none⟩) hg).trans h.1, (b.cell (p := ⟨g, o + 1, none⟩) hg).trans h.2⟩

theorem grown_below {w W w2 : World} (hg : W.grownBy w2 (some w.heap.size)) (hs : w.heap.size ≤ W.heap.size) : Below w.heap.size W w2 :=
  (Below.refl _ _).grown hg hs (fun k e => by cases e; exact Nat.le_refl _)

theorem lay_nil {B : Nat} {w : World} {a : Option Addr} {c s : Nat} {S : List Rg} (h : Lay B w a c S) (hs : S.length = s) (e : a = none) : s = 0 ∧ c = 0 := by
  have h1 := h.nil e
  have h2 := h.le
  exact ⟨by omega, h1⟩

theorem Lay.cells {B : Nat} {w : World} {a : Option Addr} {c : Nat} {S : List Rg} (h : Lay B w a c S) (ad : Addr) (e : a = some ad) : ∀ j u, (cellsOf S)[j]? = some u → w.cell? (ad.add j) = some u := by
  intro j u hu
  have hj : j < S.length * 2 := by have := (List.getElem?_eq_some_iff.1 hu).1; rwa [cellsOf_length] at this
  obtain ⟨g, o, e', _, hc⟩ := h.loc (by omega)
  rw [e] at e'
  cases e'
  have hadd : (⟨g, o, none⟩ : Addr).add j = ⟨g, o + j, none⟩ := Go.WideShapes.add_plain _ _ _
  rw [hadd]
  have hlt : j / 2 < S.length := by omega
  have hs : S[j / 2]? = some S[j / 2] := List.getElem?_eq_getElem hlt
  obtain ⟨h1, h2⟩ := hc (j / 2) _ hs
  rcases Nat.mod_two_eq_zero_or_one j with m | m
  · have ej : j = j / 2 * 2 := by omega
    rw [ej, cellsOf_lo, hs] at hu
    rw [ej]
    simp at hu
    rw [← hu]
    exact h1
  · have ej : j = j / 2 * 2 + 1 := by omega
    rw [ej, cellsOf_hi, hs] at hu
    rw [ej]
    simp at hu
    rw [← hu]
    exact h2

/-- How long a slice is. -/
def lenV : Value → Nat | .slice _ n _ => n | _ => 0

set_option maxHeartbeats 1000000 in
theorem union_any (a0 a1 : Option Addr) (c0 c1 : Nat) (rs ts : List Rg) (hn : rs.length + ts.length ≤ 200000) (hr : ∀ (j : Nat) (r : Rg), (mg rs ts)[j]? = some r → 0 ≤ r.1 ∧ r.1 ≤ 1114111 ∧ 0 ≤ r.2 ∧ r.2 ≤ 1114111) (w : World)
    (h0 : Lay w.heap.size w a0 c0 rs) (h1 : Lay w.heap.size w a1 c1 ts) :
    Calls Try.prog 24 #[.slice a0 rs.length c0, .slice a1 ts.length c1] w fun e w' => ∃ cap, e = .returned (.slice (some ⟨w.heap.size, 0, none⟩) (mrg (mg rs ts)).length cap) ∧ w'.ownsRow w.heap.size 40 2 (.slice (some ⟨w.heap.size, 0, none⟩) (mrg (mg rs ts)).length cap) (mrg (mg rs ts)).length (cellsOf (mrg (mg rs ts))) ∧ Below w.heap.size w w' := by
  obtain ⟨i0, hi, hz0, hz1, hz2⟩ := info_parts Try.info40
  have HR : Hid (∀ (j : Nat) (r : Rg), (mg rs ts)[j]? = some r → 0 ≤ r.1 ∧ r.1 ≤ 1114111 ∧ 0 ≤ r.2 ∧ r.2 ≤ 1114111) := hr
  have H0 : Hid (Lay w.heap.size w a0 c0 rs) := h0
  have H1 : Hid (Lay w.heap.size w a1 c1 ts) := h1
  clear hr h0 h1
  obtain ⟨n0, hn0⟩ : ∃ n, rs.length = n := ⟨_, rfl⟩
  obtain ⟨n1, hn1⟩ : ∃ n, ts.length = n := ⟨_, rfl⟩
  have HN0 : Hid (rs.length = n0) := hn0
  have HN1 : Hid (ts.length = n1) := hn1
  rw [hn0, hn1] at hn
  rw [hn0, hn1]
  clear hn0 hn1
  go_enter Try.func24, Try.ntmps24
  go_wp2_with (at_make; refine wpList_make_own _ rfl _ _ 34 rfl w.heap.size 40 i0 _ 2 Try.under34 hi hz0 hz1 .i64 .i64 _ (n0 + n1) rfl rfl (by omega) ?_ ?_ (Nat.le_refl _) ?_; rotate_right; intro w1 hown1 hgrow1)
  case refine_1 => rw [hz2]; omega
  case refine_2 => unfold maxLen; omega
  have HB1 : Hid (Below w.heap.size w w1) := (Below.refl _ _).grown hgrow1 (Nat.le_refl _) (fun k e => by cases e)
  have HO1 : Hid (w1.ownsRow w.heap.size 40 2 (.slice (some ⟨w.heap.size, 0, none⟩) 0 (n0 + n1)) 0 []) := hown1
  clear hown1 hgrow1
  go_loopw [0, 1, 5] (fun vs vt va wr => ∃ (S T acc : List Rg) (a0 a1 : Option Addr) (c0 c1 : Nat), vs = .slice a0 S.length c0 ∧ vt = .slice a1 T.length c1 ∧ va = .slice (some ⟨w.heap.size, 0, none⟩) acc.length (n0 + n1) ∧ acc.length + S.length + T.length ≤ n0 + n1 ∧
      Hid (Lay w.heap.size wr a0 c0 S) ∧ Hid (Lay w.heap.size wr a1 c1 T) ∧ Hid (wr.ownsRow w.heap.size 40 2 (.slice (some ⟨w.heap.size, 0, none⟩) acc.length (n0 + n1)) acc.length (cellsOf acc)) ∧ Hid (Below w.heap.size w wr) ∧ Hid (acc ++ mg S T = mg rs ts))
    (fun vs vt _ _ => lenV vs + lenV vt)
  case atStart => exact ⟨rs, ts, [], a0, a1, c0, c1, by rw [HN0.out], by rw [HN1.out], rfl, by have := HN0.out; have := HN1.out; simp; omega, H0.out.below HB1.out, H1.out.below HB1.out, HO1, HB1, rfl⟩
  case round =>
    clear H0 H1 HO1 HB1
    obtain ⟨S, T, acc, a0, a1, c0, c1, rfl, rfl, rfl, hlen, HS, HT, HO, HB, HE⟩ := hrel
    have both : (S.length ≤ 0 ∧ mg S T = S ++ T) ∨ (1 ≤ S.length ∧ T.length ≤ 0 ∧ mg S T = S ++ T) ∨ (∃ r S' q T', S = r :: S' ∧ T = q :: T') := by
      cases S with
      | nil => exact .inl ⟨Nat.le_refl _, by rw [mg_nil_left]; rfl⟩
      | cons r S =>
        cases T with
        | nil => exact .inr (.inl ⟨by simp, Nat.le_refl _, by rw [mg_nil_right, List.append_nil]⟩)
        | cons q T => exact .inr (.inr ⟨r, S, q, T, rfl, rfl⟩)
    rcases both with ⟨hz, hST⟩ | ⟨hz1', hz, hST⟩ | ⟨r, S, q, T, rfl, rfl⟩
    · have hz1' : True := trivial
      have HE2 : Hid (acc ++ S ++ T = mg rs ts) := by
        have := HE.out; rw [hST] at this; show _ = _; rw [List.append_assoc]; exact this
      have hsz := HB.out.size
      obtain ⟨s, hs⟩ : ∃ s, S.length = s := ⟨_, rfl⟩
      obtain ⟨t, ht⟩ : ∃ t, T.length = t := ⟨_, rfl⟩
      have ES : Hid (S.length = s) := hs
      have ET : Hid (T.length = t) := ht
      rw [hs] at hlen ⊢
      rw [ht] at hlen ⊢
      try rw [hs] at hz
      try rw [hs] at hz1'
      try rw [ht] at hz
      clear hST HE hs ht
      go_wp2_with (first
        | (at_builtin; refine wpList_append_fits_any _ rfl (.tmp 45) (.tmp 46) 34 rfl w.heap.size 40 i0 2 Try.under34 hi hz1 w.heap.size acc.length (n0 + n1) (cellsOf acc) rfl HO.out a0 s c0 (cellsOf S) rfl (by rw [cellsOf_length, ES.out]) (fun e => lay_nil HS.out ES.out e) (fun ad e => HS.out.cells ad e) (cellsOf_one S) (by omega) ?_; intro w2 hown2 hgrow2)
        | (at_builtin; refine wpList_append_fits_any _ rfl (.tmp 47) (.tmp 48) 34 rfl w.heap.size 40 i0 2 Try.under34 hi hz1 w.heap.size (acc.length + s) (n0 + n1) (cellsOf acc ++ cellsOf S) rfl hown2 a1 t c1 (cellsOf T) rfl (by rw [cellsOf_length, ET.out]) (fun e => lay_nil HT.out ET.out e) (fun ad e => (HT.out.below (grown_below hgrow2 hsz)).cells ad e) (cellsOf_one T) (by omega) ?_; intro w3 hown3 hgrow3))
      have HB3 : Hid (Below w.heap.size w w3) := (HB.out.trans (grown_below hgrow2 hsz)).trans (grown_below hgrow3 (Nat.le_trans hsz hgrow2.size))
      have HO3 : Hid (w3.ownsRow w.heap.size 40 2 (.slice (some ⟨w.heap.size, 0, none⟩) (acc.length + s + t) (n0 + n1)) (acc.length + s + t) (cellsOf (mg rs ts))) := by
        have e := HE2.out
        rw [← e, cellsOf_append, cellsOf_append]; exact hown3
      have LN : Hid ((mg rs ts).length = acc.length + s + t) := by
        show _ = _
        rw [← HE2.out, List.length_append, List.length_append, ES.out, ET.out]
      clear hown2 hown3 HO HS HT HB
      refine (merge_any w.heap.size (acc.length + s + t) (n0 + n1) w.heap.size (mg rs ts) (by omega) HR.out LN.out _ HO3.out).mono ?_
      rintro e w4 ⟨rfl, hown4, hgrow4⟩
      have HB4 : Hid (Below w.heap.size w w4) := HB3.out.trans (grown_below hgrow4 (Nat.le_trans (Nat.le_trans hsz hgrow2.size) hgrow3.size))
      have HO4 : Hid (w4.ownsRow w.heap.size 40 2 (.slice (some ⟨w.heap.size, 0, none⟩) (mrg (mg rs ts)).length (n0 + n1)) (mrg (mg rs ts)).length (cellsOf (mrg (mg rs ts)))) := hown4
      clear hown4 hgrow4 hgrow2 hgrow3 HO3
      go_wp2
      go_ret
      exact ⟨n0 + n1, rfl, HO4.out, HB4.out⟩
    · have HE2 : Hid (acc ++ S ++ T = mg rs ts) := by
        have := HE.out; rw [hST] at this; show _ = _; rw [List.append_assoc]; exact this
      have hsz := HB.out.size
      obtain ⟨s, hs⟩ : ∃ s, S.length = s := ⟨_, rfl⟩
      obtain ⟨t, ht⟩ : ∃ t, T.length = t := ⟨_, rfl⟩
      have ES : Hid (S.length = s) := hs
      have ET : Hid (T.length = t) := ht
      rw [hs] at hlen ⊢
      rw [ht] at hlen ⊢
      try rw [hs] at hz
      try rw [hs] at hz1'
      try rw [ht] at hz
      clear hST HE hs ht
      go_wp2_with (first
        | (at_builtin; refine wpList_append_fits_any _ rfl (.tmp 45) (.tmp 46) 34 rfl w.heap.size 40 i0 2 Try.under34 hi hz1 w.heap.size acc.length (n0 + n1) (cellsOf acc) rfl HO.out a0 s c0 (cellsOf S) rfl (by rw [cellsOf_length, ES.out]) (fun e => lay_nil HS.out ES.out e) (fun ad e => HS.out.cells ad e) (cellsOf_one S) (by omega) ?_; intro w2 hown2 hgrow2)
        | (at_builtin; refine wpList_append_fits_any _ rfl (.tmp 47) (.tmp 48) 34 rfl w.heap.size 40 i0 2 Try.under34 hi hz1 w.heap.size (acc.length + s) (n0 + n1) (cellsOf acc ++ cellsOf S) rfl hown2 a1 t c1 (cellsOf T) rfl (by rw [cellsOf_length, ET.out]) (fun e => lay_nil HT.out ET.out e) (fun ad e => (HT.out.below (grown_below hgrow2 hsz)).cells ad e) (cellsOf_one T) (by omega) ?_; intro w3 hown3 hgrow3))
      have HB3 : Hid (Below w.heap.size w w3) := (HB.out.trans (grown_below hgrow2 hsz)).trans (grown_below hgrow3 (Nat.le_trans hsz hgrow2.size))
      have HO3 : Hid (w3.ownsRow w.heap.size 40 2 (.slice (some ⟨w.heap.size, 0, none⟩) (acc.length + s + t) (n0 + n1)) (acc.length + s + t) (cellsOf (mg rs ts))) := by
        have e := HE2.out
        rw [← e, cellsOf_append, cellsOf_append]; exact hown3
      have LN : Hid ((mg rs ts).length = acc.length + s + t) := by
        show _ = _
        rw [← HE2.out, List.length_append, List.length_append, ES.out, ET.out]
      clear hown2 hown3 HO HS HT HB
      refine (merge_any w.heap.size (acc.length + s + t) (n0 + n1) w.heap.size (mg rs ts) (by omega) HR.out LN.out _ HO3.out).mono ?_
      rintro e w4 ⟨rfl, hown4, hgrow4⟩
      have HB4 : Hid (Below w.heap.size w w4) := HB3.out.trans (grown_below hgrow4 (Nat.le_trans (Nat.le_trans hsz hgrow2.size) hgrow3.size))
      have HO4 : Hid (w4.ownsRow w.heap.size 40 2 (.slice (some ⟨w.heap.size, 0, none⟩) (mrg (mg rs ts)).length (n0 + n1)) (mrg (mg rs ts)).length (cellsOf (mrg (mg rs ts)))) := hown4
      clear hown4 hgrow4 hgrow2 hgrow3 HO3
      go_wp2
      go_ret
      exact ⟨n0 + n1, rfl, HO4.out, HB4.out⟩
    · obtain ⟨x, y⟩ := r
      obtain ⟨p, z⟩ := q
      obtain ⟨g0, o0, rfl, hg0, hc0⟩ := HS.out.loc (by simp)
      obtain ⟨g1, o1, rfl, hg1, hc1⟩ := HT.out.loc (by simp)
      obtain ⟨ex, ey⟩ := hc0 0 (x, y) rfl
      obtain ⟨ep, ez⟩ := hc1 0 (p, z) rfl
      simp only [Nat.zero_mul, Nat.add_zero] at ex ey ep ez
      have hsz := HB.out.size
      obtain ⟨m, hm⟩ : ∃ m, S.length = m := ⟨_, rfl⟩
      obtain ⟨l, hl⟩ : ∃ l, T.length = l := ⟨_, rfl⟩
      simp only [List.length_cons] at hlen ⊢
      rw [hm, hl] at hlen ⊢
      have HM : Hid (S.length = m) := hm
      have HL : Hid (T.length = l) := hl
      clear hm hl hc0 hc1
      by_cases hc : x ≤ p
      · have dc : decide (x ≤ p) = true := decide_eq_true hc
        go_wp2_with fail
        go_quiet (fail)
        have HSq : Hid (Lay w.heap.size (wr.drewN nq) (some ⟨g0, o0, none⟩) c0 ((x, y) :: S)) := HS.out.below (below_drewN (Below.refl _ _) _)
        have HTq : Hid (Lay w.heap.size (wr.drewN nq) (some ⟨g1, o1, none⟩) c1 ((p, z) :: T)) := HT.out.below (below_drewN (Below.refl _ _) _)
        have HOq : Hid ((wr.drewN nq).ownsRow w.heap.size 40 2 (.slice (some ⟨w.heap.size, 0, none⟩) acc.length (n0 + n1)) acc.length (cellsOf acc)) := HO.out
        have HBq : Hid (Below w.heap.size w (wr.drewN nq)) := below_drewN HB.out _
        have exq : (wr.drewN nq).cell? ⟨g0, o0, none⟩ = some (.int .i32 x) := ex
        have eyq : (wr.drewN nq).cell? ⟨g0, o0 + 1, none⟩ = some (.int .i32 y) := ey
        have hsq : w.heap.size ≤ (wr.drewN nq).heap.size := hsz
        have hc0 : m + 1 ≤ c0 := by have := HS.out.le; have := HM.out; simp at *; omega
        clear HS HT HO HB ex ey ep ez hsz
        go_wp2_with fail
        generalize wr.drewN nq = W at *
        have hm1 : (1 : Int) ≤ (m : Int) + 1 := by omega
        go_region_held3 (fun w' => w'.cell? ⟨g0, o0, none⟩ = some (.int .i32 x) ∧ w'.cell? ⟨g0, o0 + 1, none⟩ = some (.int .i32 y)) (first | exact ⟨exq, eyq⟩ | exact keep2 ⟨exq, eyq⟩ hg0 (by omega) | exact keep2b ⟨exq, eyq⟩ hg0 hsq (by assumption)) ((refine step_append_fits rfl _ _ 34 rfl w.heap.size 40 i0 2 Try.under34 hi hz1 w.heap.size acc.length (n0 + n1) _ rfl (by exact (HOq.out.alloc _).drew) ⟨W.heap.size, 0, none⟩ 1 1 [.int .i32 x, .int .i32 y] rfl rfl (by exact two_newest W _ _) (two_one _ _) (by omega) ?_; intro w2 hown2 hgrow2))
        have B2 : Below w.heap.size W w2 := pushed hgrow2 hsq
        have HO2 : Hid (w2.ownsRow w.heap.size 40 2 (.slice (some ⟨w.heap.size, 0, none⟩) (acc.length + 1) (n0 + n1)) (acc.length + 1) (cellsOf (acc ++ [(x, y)]))) := by
          rw [cellsOf_append]; exact hown2
        have HB2 : Hid (Below w.heap.size w w2) := HBq.out.trans B2
        have HS2 : Hid (Lay w.heap.size w2 (if c0 = 1 then some ⟨g0, o0, none⟩ else some ⟨g0, o0 + 2, none⟩) (c0 - 1) S) := HSq.out.rest.below B2
        have HT2 : Hid (Lay w.heap.size w2 (some ⟨g1, o1, none⟩) c1 ((p, z) :: T)) := HTq.out.below B2
        have HE2 : Hid ((acc ++ [(x, y)]) ++ mg S ((p, z) :: T) = mg rs ts) := by
          have := HE.out; rw [mg_left (x, y) (p, z) S T hc] at this; show _ = _; rw [List.append_assoc]; exact this
        have EL : Hid ((acc ++ [(x, y)]).length = acc.length + 1) := by show _ = _; simp
        generalize (if c0 = 1 then some (⟨g0, o0, none⟩ : Addr) else some ⟨g0, o0 + 2, none⟩) = A at HS2 ⊢
        clear HSq HTq HOq HBq exq eyq hsq B2 hown2 hgrow2 HE
        go_wp2
        go_roundw
        case rel => exact ⟨S, (p, z) :: T, acc ++ [(x, y)], A, some ⟨g1, o1, none⟩, c0 - 1, c1, by rw [HM.out], by rw [List.length_cons, HL.out], by rw [EL.out], by rw [EL.out, HM.out, List.length_cons, HL.out]; omega, HS2, HT2, by rw [EL.out]; exact HO2, HB2, HE2⟩
        case measure => simp [lenV]
      · have dc : decide (x ≤ p) = false := decide_eq_false hc
        go_wp2_with fail
        go_quiet (fail)
        have HSq : Hid (Lay w.heap.size (wr.drewN nq) (some ⟨g0, o0, none⟩) c0 ((x, y) :: S)) := HS.out.below (below_drewN (Below.refl _ _) _)
        have HTq : Hid (Lay w.heap.size (wr.drewN nq) (some ⟨g1, o1, none⟩) c1 ((p, z) :: T)) := HT.out.below (below_drewN (Below.refl _ _) _)
        have HOq : Hid ((wr.drewN nq).ownsRow w.heap.size 40 2 (.slice (some ⟨w.heap.size, 0, none⟩) acc.length (n0 + n1)) acc.length (cellsOf acc)) := HO.out
        have HBq : Hid (Below w.heap.size w (wr.drewN nq)) := below_drewN HB.out _
        have exq : (wr.drewN nq).cell? ⟨g1, o1, none⟩ = some (.int .i32 p) := ep
        have eyq : (wr.drewN nq).cell? ⟨g1, o1 + 1, none⟩ = some (.int .i32 z) := ez
        have hsq : w.heap.size ≤ (wr.drewN nq).heap.size := hsz
        have hc0 : l + 1 ≤ c1 := by have := HT.out.le; have := HL.out; simp at *; omega
        clear HS HT HO HB ex ey ep ez hsz
        go_wp2_with fail
        generalize wr.drewN nq = W at *
        have hm1 : (1 : Int) ≤ (l : Int) + 1 := by omega
        go_region_held3 (fun w' => w'.cell? ⟨g1, o1, none⟩ = some (.int .i32 p) ∧ w'.cell? ⟨g1, o1 + 1, none⟩ = some (.int .i32 z)) (first | exact ⟨exq, eyq⟩ | exact keep2 ⟨exq, eyq⟩ hg1 (by omega) | exact keep2b ⟨exq, eyq⟩ hg1 hsq (by assumption)) ((refine step_append_fits rfl _ _ 34 rfl w.heap.size 40 i0 2 Try.under34 hi hz1 w.heap.size acc.length (n0 + n1) _ rfl (by exact (HOq.out.alloc _).drew) ⟨W.heap.size, 0, none⟩ 1 1 [.int .i32 p, .int .i32 z] rfl rfl (by exact two_newest W _ _) (two_one _ _) (by omega) ?_; intro w2 hown2 hgrow2))
        have B2 : Below w.heap.size W w2 := pushed hgrow2 hsq
        have HO2 : Hid (w2.ownsRow w.heap.size 40 2 (.slice (some ⟨w.heap.size, 0, none⟩) (acc.length + 1) (n0 + n1)) (acc.length + 1) (cellsOf (acc ++ [(p, z)]))) := by
          rw [cellsOf_append]; exact hown2
        have HB2 : Hid (Below w.heap.size w w2) := HBq.out.trans B2
        have HS2 : Hid (Lay w.heap.size w2 (some ⟨g0, o0, none⟩) c0 ((x, y) :: S)) := HSq.out.below B2
        have HT2 : Hid (Lay w.heap.size w2 (if c1 = 1 then some ⟨g1, o1, none⟩ else some ⟨g1, o1 + 2, none⟩) (c1 - 1) T) := HTq.out.rest.below B2
        have HE2 : Hid ((acc ++ [(p, z)]) ++ mg ((x, y) :: S) T = mg rs ts) := by
          have := HE.out; rw [mg_right (x, y) (p, z) S T (by simp; omega)] at this; show _ = _; rw [List.append_assoc]; exact this
        have EL : Hid ((acc ++ [(p, z)]).length = acc.length + 1) := by show _ = _; simp
        generalize (if c1 = 1 then some (⟨g1, o1, none⟩ : Addr) else some ⟨g1, o1 + 2, none⟩) = A at HT2 ⊢
        clear HSq HTq HOq HBq exq eyq hsq B2 hown2 hgrow2 HE
        go_wp2
        go_roundw
        case rel => exact ⟨(x, y) :: S, T, acc ++ [(p, z)], some ⟨g0, o0, none⟩, A, c0, c1 - 1, by rw [List.length_cons, HM.out], by rw [HL.out], by rw [EL.out], by rw [EL.out, HL.out, List.length_cons, HM.out]; omega, HS2, HT2, by rw [EL.out]; exact HO2, HB2, HE2⟩
        case measure => simp [lenV]
end Go.Proofs.Qxb6613004a
