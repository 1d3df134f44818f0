/-
  THE WALK of FnLeadingRunAlternatingRunsTile.
-/
import Derived.Test.Qxb6613004aRun
import Derived.Test.Qxb6613004aTile
import Derived.Test.Qxb6613004aNot
import Derived.Deep.RegionWith
import Derived.Deep.RegionHeld3
namespace Go.Proofs.Qxb6613004a
open Go.RowKit
open Lead

set_option maxHeartbeats 400000 in
theorem zb12_yes (s : ByteArray) (hs : s.size ≤ 1048576) (q0 q1 q2 q3 : Int) (w : World) :
    Calls Try.prog 12 #[.string s, .agg #[.int .u64 q0, .int .u64 q1, .int .u64 q2, .int .u64 q3]] w fun e w' => e = .returned (.bool true) ∧ Below w.heap.size w w' := by
  go_enter Try.func12, Try.ntmps12
  go_wp2
  go_ret
  exact ⟨rfl, (Below.refl _ _).alloc (Nat.le_refl _) _⟩
set_option maxHeartbeats 400000 in
theorem zb12_no (s : ByteArray) (hs : 1048576 < s.size) (q0 q1 q2 q3 : Int) (w : World) :
    Calls Try.prog 12 #[.string s, .agg #[.int .u64 q0, .int .u64 q1, .int .u64 q2, .int .u64 q3]] w fun e w' => e = .returned (.bool false) ∧ Below w.heap.size w w' := by
  go_enter Try.func12, Try.ntmps12
  go_wp2
  go_ret
  exact ⟨rfl, (Below.refl _ _).alloc (Nat.le_refl _) _⟩


/-- Four words in a block of their own, free to be written. -/
def Blk (w : World) (B : Nat) (x0 x1 x2 x3 : Int) : Prop := w.heap[B]? = some (.cells #[.int .u64 x0, .int .u64 x1, .int .u64 x2, .int .u64 x3] 23 (0, 0))

theorem Blk.lt {w : World} {B : Nat} {x0 x1 x2 x3 : Int} (h : Blk w B x0 x1 x2 x3) : B < w.heap.size := (Array.getElem?_eq_some_iff.1 h).1
theorem Blk.lies {w : World} {B : Nat} {x0 x1 x2 x3 : Int} (h : Blk w B x0 x1 x2 x3) : Lies w B x0 x1 x2 x3 := by
  unfold Blk at h
  refine ⟨?_, ?_, ?_, ?_⟩ <;> simp [World.cell?, h]
theorem Blk.free {w : World} {B : Nat} {x0 x1 x2 x3 : Int} (h : Blk w B x0 x1 x2 x3) (j : Nat) : w.frozen? ⟨B, j, none⟩ = false := by
  unfold Blk at h
  simp [World.frozen?, h]
theorem Blk.below {w w' : World} {B n : Nat} {x0 x1 x2 x3 : Int} (h : Blk w B x0 x1 x2 x3) (hb : Below n w w') (hB : B < n) : Blk w' B x0 x1 x2 x3 := (hb.block B hB).trans h
theorem Blk.drew {w : World} {B : Nat} {x0 x1 x2 x3 : Int} (h : Blk w B x0 x1 x2 x3) : Blk w.drew B x0 x1 x2 x3 := h
theorem Blk.new (w : World) (x0 x1 x2 x3 : Int) : Blk (w.alloc (.cells #[.int .u64 x0, .int .u64 x1, .int .u64 x2, .int .u64 x3] 23)) w.heap.size x0 x1 x2 x3 := by
  show (w.heap.push _)[w.heap.size]? = _
  simp
theorem Blk.alloc {w : World} {B : Nat} {x0 x1 x2 x3 : Int} (h : Blk w B x0 x1 x2 x3) (o : Obj) : Blk (w.alloc o) B x0 x1 x2 x3 := (Below.heap_alloc w o B h.lt).trans h

theorem lies_alloc {w : World} {B : Nat} {x0 x1 x2 x3 : Int} (h : Lies w B x0 x1 x2 x3) (hB : B < w.heap.size) (o : Obj) : Lies (w.alloc o) B x0 x1 x2 x3 :=
  h.below ((Below.refl _ _).alloc (Nat.le_refl _) o) hB

theorem blk_set4 {w : World} {B : Nat} {x0 x1 x2 x3 : Int} (h : Blk w B x0 x1 x2 x3) (y0 y1 y2 y3 : Int) :
    Blk ((((w.setCell ⟨B, 0, none⟩ (.int .u64 y0)).setCell ⟨B, 1, none⟩ (.int .u64 y1)).setCell ⟨B, 2, none⟩ (.int .u64 y2)).setCell ⟨B, 3, none⟩ (.int .u64 y3)) B y0 y1 y2 y3 := by
  unfold Blk at h ⊢
  simp [World.setCell, Array.getElem?_modify, h]
theorem blk_other {w : World} {B : Nat} {x0 x1 x2 x3 : Int} (h : Blk w B x0 x1 x2 x3) {a : Addr} (ha : B ≠ a.block) (v : Value) : Blk (w.setCell a v) B x0 x1 x2 x3 :=
  (Below.heap_setCell w a v B ha).trans h

theorem swapped {w w5 : World} {N : Nat} {q0 q1 q2 q3 x0 x1 x2 x3 y0 y1 y2 y3 : Int} (hN : w.heap.size < N) (HL : Lies w5 w.heap.size q0 q1 q2 q3) (HC : Blk w5 (N + 1) x0 x1 x2 x3) (HO : Blk w5 (N + 1 + 1) y0 y1 y2 y3) (HB : Below w.heap.size w w5) {w6 : World}
    (e : w6 = ((((((((w5.setCell ⟨N + 1, 0, none⟩ (.int .u64 y0)).setCell ⟨N + 1, 1, none⟩ (.int .u64 y1)).setCell ⟨N + 1, 2, none⟩ (.int .u64 y2)).setCell ⟨N + 1, 3, none⟩ (.int .u64 y3)).setCell ⟨N + 1 + 1, 0, none⟩ (.int .u64 x0)).setCell ⟨N + 1 + 1, 1, none⟩ (.int .u64 x1)).setCell ⟨N + 1 + 1, 2, none⟩ (.int .u64 x2)).setCell ⟨N + 1 + 1, 3, none⟩ (.int .u64 x3))) :
    Hid (Lies w6 w.heap.size q0 q1 q2 q3) ∧ Hid (Blk w6 (N + 1) y0 y1 y2 y3) ∧ Hid (Blk w6 (N + 1 + 1) x0 x1 x2 x3) ∧ Hid (Below w.heap.size w w6) := by
  have b6 : Below (N + 1) w5 w6 := by
    have k1 : ∀ (w' : World), Below (N + 1) w5 w' → ∀ j v, Below (N + 1) w5 (w'.setCell ⟨N + 1, j, none⟩ v) := fun w' h j v => h.setCell (p := ⟨N + 1, j, none⟩) (Nat.le_refl _) v
    have k2 : ∀ (w' : World), Below (N + 1) w5 w' → ∀ j v, Below (N + 1) w5 (w'.setCell ⟨N + 1 + 1, j, none⟩ v) := fun w' h j v => h.setCell (p := ⟨N + 1 + 1, j, none⟩) (Nat.le_succ _) v
    rw [e]
    exact k2 _ (k2 _ (k2 _ (k2 _ (k1 _ (k1 _ (k1 _ (k1 _ (Below.refl _ _) _ _) _ _) _ _) _ _) _ _) _ _) _ _) _ _
  refine ⟨HL.below b6 (by omega), ?_, ?_, HB.trans (b6.mono (by omega))⟩
  · rw [e]
    exact blk_other (blk_other (blk_other (blk_other (blk_set4 HC _ _ _ _) (by simp) _) (by simp) _) (by simp) _) (by simp) _
  · rw [e]
    exact blk_set4 (blk_other (blk_other (blk_other (blk_other HO (by simp) _) (by simp) _) (by simp) _) (by simp) _) _ _ _ _

theorem idx_at (s : ByteArray) (j : Nat) (h2 : j < s.size) (w : World) :
    (Instr.index 9 (.string s) (.int .i64 (j : Int))).run Try.prog w = .ok (.int .u8 (s[j].toNat : Int)) w := by
  rw [run_index_string w 9 s .i64 (j : Int) Try.underlying9, dif_pos ⟨by omega, by omega⟩]
  simp
theorem idx_prev (s : ByteArray) (j : Nat) (h1 : 1 ≤ j) (h3 : j - 1 < s.size) (w : World) :
    (Instr.index 9 (.string s) (.int .i64 ((j : Int) - 1))).run Try.prog w = .ok (.int .u8 (s[j - 1].toNat : Int)) w := by
  have e : ((j : Int) - 1) = ((j - 1 : Nat) : Int) := by omega
  rw [e]
  exact idx_at s (j - 1) h3 w

/-- What a region that calls zzInBits holds by: the four words lie, nothing that was there has turned. -/
theorem keep4 {w wa wb : World} {q0 q1 q2 q3 : Int}
    (h : wa.cell? ⟨w.heap.size, 0, none⟩ = some (.int .u64 q0) ∧ wa.cell? ⟨w.heap.size, 1, none⟩ = some (.int .u64 q1) ∧ wa.cell? ⟨w.heap.size, 2, none⟩ = some (.int .u64 q2) ∧ wa.cell? ⟨w.heap.size, 3, none⟩ = some (.int .u64 q3) ∧ w.heap.size < wa.heap.size ∧ Below w.heap.size w wa)
    (hb : Below wa.heap.size wa wb) :
    wb.cell? ⟨w.heap.size, 0, none⟩ = some (.int .u64 q0) ∧ wb.cell? ⟨w.heap.size, 1, none⟩ = some (.int .u64 q1) ∧ wb.cell? ⟨w.heap.size, 2, none⟩ = some (.int .u64 q2) ∧ wb.cell? ⟨w.heap.size, 3, none⟩ = some (.int .u64 q3) ∧ w.heap.size < wb.heap.size ∧ Below w.heap.size w wb := by
  obtain ⟨a0, a1, a2, a3, hs, hw⟩ := h
  obtain ⟨b0, b1, b2, b3⟩ := Lies.below ⟨a0, a1, a2, a3⟩ hb hs
  exact ⟨b0, b1, b2, b3, by have := hb.size; omega, hw.trans (hb.mono (by omega))⟩

/-- The set in turn and the one that is next in turn. -/
structure Pair (f : Int → Bool) (b : Bool) (x0 x1 x2 x3 y0 y1 y2 y3 : Int) : Prop where
  a0 : Word x0
  a1 : Word x1
  a2 : Word x2
  a3 : Word x3
  b0 : Word y0
  b1 : Word y1
  b2 : Word y2
  b3 : Word y3
  cur : ∀ c : UInt8, inB x0 x1 x2 x3 (c.toNat : Int) = side f b (c.toNat : Int)
  oth : ∀ c : UInt8, inB y0 y1 y2 y3 (c.toNat : Int) = side f (!b) (c.toNat : Int)

theorem Pair.swap {f : Int → Bool} {b : Bool} {x0 x1 x2 x3 y0 y1 y2 y3 : Int} (h : Pair f b x0 x1 x2 x3 y0 y1 y2 y3) : Pair f (!b) y0 y1 y2 y3 x0 x1 x2 x3 :=
  ⟨h.b0, h.b1, h.b2, h.b3, h.a0, h.a1, h.a2, h.a3, h.oth, by simpa using h.cur⟩

set_option maxHeartbeats 1000000 in
theorem walk4_core (s : ByteArray) (hs : s.size ≤ 65536) (q0 q1 q2 q3 r0 r1 r2 r3 : Int) (h0 : Word q0) (h1 : Word q1) (h2 : Word q2) (h3 : Word q3)
    (e0 : Hid (bits .xor .u64 IntKind.u64.max q0 = r0)) (e1 : Hid (bits .xor .u64 IntKind.u64.max q1 = r1)) (e2 : Hid (bits .xor .u64 IntKind.u64.max q2 = r2)) (e3 : Hid (bits .xor .u64 IntKind.u64.max q3 = r3))
    (hp : Pair (inB q0 q1 q2 q3) true q0 q1 q2 q3 r0 r1 r2 r3) (w : World) :
    Calls Try.prog 4 #[.string s, .agg #[.int .u64 q0, .int .u64 q1, .int .u64 q2, .int .u64 q3]] w fun e w' => e = .returned (.bool true) ∧ Below w.heap.size w w' := by
  have hs1 : s.size ≤ 1048576 := by omega
  have t1 : decide ((65536:Int) < (s.size : Int)) = false := by simp; omega
  go_enter Try.func4, Try.ntmps4
  go_wp2_with fail
  refine (zb12_yes s hs1 q0 q1 q2 q3 _).mono ?_
  rintro e w1 ⟨rfl, hb1⟩
  have hl1 := (Lies.new w q0 q1 q2 q3 23).below hb1 (by simp)
  have H1 : Hid (Lies w1 w.heap.size q0 q1 q2 q3) := hl1
  have S1 : w.heap.size < w1.heap.size := by have := hb1.size; simp at this; omega
  have HB1 : Hid (Below w.heap.size w w1) := ((Below.refl _ _).alloc (Nat.le_refl _) _).trans (hb1.mono (by simp))
  clear hb1
  obtain ⟨c10, c11, c12, c13⟩ := hl1
  go_wp2_with fail
  refine wp_loop_rounds 5 ?_
  rw [rounds_succ]; go_wp2_with fail
  rw [rounds_succ]; go_wp2_with fail
  rw [rounds_succ]; go_wp2_with fail
  rw [rounds_succ]; go_wp2_with fail
  rw [rounds_succ]; go_wp2_with fail
  rw [e0.out, e1.out, e2.out, e3.out]
  obtain ⟨N, hN⟩ : ∃ N, w1.heap.size = N := ⟨_, rfl⟩
  have X1 := Blk.new w1 r0 r1 r2 r3
  have X2 := Blk.new (w1.alloc (.cells #[.int .u64 r0, .int .u64 r1, .int .u64 r2, .int .u64 r3] 23)) q0 q1 q2 q3
  have X3 := Blk.new ((w1.alloc (.cells #[.int .u64 r0, .int .u64 r1, .int .u64 r2, .int .u64 r3] 23)).alloc (.cells #[.int .u64 q0, .int .u64 q1, .int .u64 q2, .int .u64 q3] 23)) r0 r1 r2 r3
  have HL : Hid (Lies (((w1.alloc (.cells #[.int .u64 r0, .int .u64 r1, .int .u64 r2, .int .u64 r3] 23)).alloc (.cells #[.int .u64 q0, .int .u64 q1, .int .u64 q2, .int .u64 q3] 23)).alloc (.cells #[.int .u64 r0, .int .u64 r1, .int .u64 r2, .int .u64 r3] 23)) w.heap.size q0 q1 q2 q3) :=
    lies_alloc (lies_alloc (lies_alloc H1.out S1 _) (by simp; omega) _) (by simp; omega) _
  have HC : Hid (Blk (((w1.alloc (.cells #[.int .u64 r0, .int .u64 r1, .int .u64 r2, .int .u64 r3] 23)).alloc (.cells #[.int .u64 q0, .int .u64 q1, .int .u64 q2, .int .u64 q3] 23)).alloc (.cells #[.int .u64 r0, .int .u64 r1, .int .u64 r2, .int .u64 r3] 23)) (w1.heap.size + 1) q0 q1 q2 q3) := by
    have := X2.alloc (.cells #[.int .u64 r0, .int .u64 r1, .int .u64 r2, .int .u64 r3] 23); rwa [World.size_alloc] at this
  have HO : Hid (Blk (((w1.alloc (.cells #[.int .u64 r0, .int .u64 r1, .int .u64 r2, .int .u64 r3] 23)).alloc (.cells #[.int .u64 q0, .int .u64 q1, .int .u64 q2, .int .u64 q3] 23)).alloc (.cells #[.int .u64 r0, .int .u64 r1, .int .u64 r2, .int .u64 r3] 23)) (w1.heap.size + 1 + 1) r0 r1 r2 r3) := by
    rw [World.size_alloc, World.size_alloc] at X3; exact X3
  have HB : Hid (Below w.heap.size w (((w1.alloc (.cells #[.int .u64 r0, .int .u64 r1, .int .u64 r2, .int .u64 r3] 23)).alloc (.cells #[.int .u64 q0, .int .u64 q1, .int .u64 q2, .int .u64 q3] 23)).alloc (.cells #[.int .u64 r0, .int .u64 r1, .int .u64 r2, .int .u64 r3] 23))) :=
    ((HB1.out.alloc (by omega) _).alloc (by simp; omega) _).alloc (by simp; omega) _
  clear X1 X2 X3 c10 c11 c12 c13 H1 HB1
  generalize (((w1.alloc (.cells #[.int .u64 r0, .int .u64 r1, .int .u64 r2, .int .u64 r3] 23)).alloc (.cells #[.int .u64 q0, .int .u64 q1, .int .u64 q2, .int .u64 q3] 23)).alloc (.cells #[.int .u64 r0, .int .u64 r1, .int .u64 r2, .int .u64 r3] 23)) = W0 at *
  rw [hN] at HC HO S1 ⊢
  clear hN
  clear e0 e1 e2 e3
  go_loopw [9, 10, 11] (fun vp vr vs wr => ∃ (p r : Nat) (b : Bool) (x0 x1 x2 x3 y0 y1 y2 y3 : Int), p ≤ s.size ∧ vp = .int .i64 p ∧ vr = .int .i64 r ∧ vs = .int .i64 r ∧
      Hid (Lies wr w.heap.size q0 q1 q2 q3) ∧ Hid (Blk wr (N + 1) x0 x1 x2 x3) ∧ Hid (Blk wr (N + 1 + 1) y0 y1 y2 y3) ∧ Hid (Below w.heap.size w wr) ∧
      Pair (inB q0 q1 q2 q3) b x0 x1 x2 x3 y0 y1 y2 y3 ∧ Hid (r + need (inB q0 q1 q2 q3) b (s.data.toList.drop p) = need (inB q0 q1 q2 q3) true s.data.toList) ∧
      Hid (r = 0 ∨ ∀ h : p < s.size, inB q0 q1 q2 q3 (s[p].toNat : Int) = b))
    (fun _ vr _ _ => s.size + 2 - (intOf vr).toNat)
  case atStart => exact ⟨0, 0, true, q0, q1, q2, q3, r0, r1, r2, r3, Nat.zero_le _, rfl, rfl, rfl, HL, HC, HO, HB, hp, by show _ = _; simp, .inl rfl⟩
  case round =>
    clear HL HC HO HB hp
    obtain ⟨p, r, b, x0, x1, x2, x3, y0, y1, y2, y3, hps, rfl, rfl, rfl, HL, HC, HO, HB, hp, HN, HS⟩ := hrel
    have rle : r ≤ s.size + 1 := by
      have a := HN.out; have b := need_le (inB q0 q1 q2 q3) true s.data.toList; simp at b; omega
    by_cases hlt : p < s.size
    · have hne : s.data.toList.drop p ≠ [] := by
        intro h; have := congrArg List.length h; simp at this; omega
      have rle2 : r ≤ s.size := by
        have a := HN.out; have b' := need_le (inB q0 q1 q2 q3) true s.data.toList; have c := need_pos (inB q0 q1 q2 q3) b (s.data.toList.drop p) hne; simp at b'; omega
      obtain ⟨n, hn⟩ : ∃ n, lead (side (inB q0 q1 q2 q3) b) (s.data.toList.drop p) = n := ⟨_, rfl⟩
      have EN : Hid (lead (inB x0 x1 x2 x3) (s.extract p s.size).data.toList = n) := by
        show _ = _
        rw [lead_congr hp.cur, extract_list, List.take_of_length_le (by simp), hn]
      have nle : n ≤ s.size - p := by have := lead_le (side (inB q0 q1 q2 q3) b) (s.data.toList.drop p); simp at this; omega
      have HN2 : Hid (r + 1 + need (inB q0 q1 q2 q3) (!b) (s.data.toList.drop (p + n)) = need (inB q0 q1 q2 q3) true s.data.toList) := by
        show _ = _
        have := HN.out; rw [need_step _ _ _ hne, hn, List.drop_drop] at this; omega
      have HS2 : Hid (r + 1 = 0 ∨ ∀ h : p + n < s.size, inB q0 q1 q2 q3 (s[p + n].toNat : Int) = !b) := by
        refine .inr fun h => ?_
        have h' : lead (side (inB q0 q1 q2 q3) b) (s.data.toList.drop p) < (s.data.toList.drop p).length := by rw [hn]; simp; omega
        have := next_side (inB q0 q1 q2 q3) b (s.data.toList.drop p) h'
        simp only [hn, List.getElem_drop] at this
        exact this
      have hr0 : r ≤ 0 ∨ (1 ≤ r ∧ 1 ≤ n) := by
        by_cases hr : r ≤ 0
        · exact .inl hr
        rcases HS.out with h | h
        · exact .inl (by omega)
        · refine .inr ⟨by omega, ?_⟩
          rw [← hn]
          exact lead_pos _ _ _ (by simp; omega) (by rw [List.getElem_drop]; exact h hlt)
      clear hn HN HS
      have SC := HC.out.lt
      have SO := HO.out.lt
      obtain ⟨c0, c1, c2, c3⟩ := HC.out.lies
      go_wp2_with fail
      go_region_held3 (fun w' => w'.cell? ⟨N + 1, 0, none⟩ = some (.int .u64 x0) ∧ w'.cell? ⟨N + 1, 1, none⟩ = some (.int .u64 x1) ∧ w'.cell? ⟨N + 1, 2, none⟩ = some (.int .u64 x2) ∧ w'.cell? ⟨N + 1, 3, none⟩ = some (.int .u64 x3)) (first | exact HC.out.lies | exact (HC.out.drew.below (by assumption) SC).lies) ((go_at_call 10; refine (zlr_any _ (by simp; omega) x0 x1 x2 x3 hp.a0 hp.a1 hp.a2 hp.a3 _).mono ?_; rintro e w5 ⟨rfl, hb5⟩; rw [EN.out]))
      have HL5 : Hid (Lies w5 w.heap.size q0 q1 q2 q3) := HL.out.drew.below hb5 (by simp; omega)
      have HC5 : Hid (Blk w5 (N + 1) x0 x1 x2 x3) := HC.out.drew.below hb5 SC
      have HO5 : Hid (Blk w5 (N + 1 + 1) y0 y1 y2 y3) := HO.out.drew.below hb5 SO
      have HB5 : Hid (Below w.heap.size w w5) := HB.out.drew.trans (hb5.mono (by simp; omega))
      clear hb5 HL HC HO HB c0 c1 c2 c3 EN
      obtain ⟨c0, c1, c2, c3⟩ := HC5.out.lies
      obtain ⟨d0, d1, d2, d3⟩ := HO5.out.lies
      have f0 := HC5.out.free 0
      have f1 := HC5.out.free 1
      have f2 := HC5.out.free 2
      have f3 := HC5.out.free 3
      have g0 := HO5.out.free 0
      have g1 := HO5.out.free 1
      have g2 := HO5.out.free 2
      have g3 := HO5.out.free 3
      rcases hr0 with hr0 | ⟨hr0, hn0⟩
      all_goals
        go_wp2
        go_roundw
        case rel =>
          obtain ⟨S6, S7, S8, S9⟩ := swapped S1 HL5.out HC5.out HO5.out HB5.out rfl
          exact ⟨p + n, r + 1, !b, y0, y1, y2, y3, x0, x1, x2, x3, by omega, by go_num, by go_num, by go_num, S6, S7, S8, S9, hp.swap, HN2, HS2⟩
        case measure => simp [intOf]; omega
    · have HR : Hid (r = need (inB q0 q1 q2 q3) true s.data.toList) := by
        show _ = _
        have := HN.out; rw [List.drop_of_length_le (by simp; omega)] at this; simpa [need] using this
      clear HN HS
      have tp : ((p : Int) != (s.size : Int)) = false := by simp; omega
      by_cases hz : s.size = 0
      · have tz : decide ((0:Int) < (s.size : Int)) = false := decide_eq_false (by omega)
        have tr : ((r : Int) == 0) = true := by
          have := HR.out
          rw [show s.data.toList = [] from List.length_eq_zero_iff.1 (by simpa using hz)] at this
          simp [need] at this; simp; omega
        have hlt' : s.size ≤ p := by omega
        have hz' : s.size ≤ 0 := by omega
        clear hz
        go_wp2
        go_ret
        exact ⟨rfl, HB.out⟩
      · have hpos : 0 < s.size := by omega
        have tz : decide ((0:Int) < (s.size : Int)) = true := decide_eq_true (by omega)
        obtain ⟨wo, hwo⟩ : ∃ wo : World, wo = wr := ⟨_, rfl⟩
        rw [← hwo] at HL HC HO HB ⊢
        clear hwo
        obtain ⟨c0, c1, c2, c3⟩ := HL.out
        have SC := HC.out.lt
        have SL : w.heap.size < wo.heap.size := by omega
        obtain ⟨b0, b1⟩ := byte_le s[0]
        have HR2 : Hid (need (inB q0 q1 q2 q3) true s.data.toList = (if inB q0 q1 q2 q3 (s[0].toNat : Int) = true then 0 else 1) + 1 + changes (inB q0 q1 q2 q3) s.data.toList) := by
          show _ = _
          have hd := drop_cons s 0 hpos
          rw [List.drop_zero] at hd
          rw [hd]; rfl
        cases hf : inB q0 q1 q2 q3 (s[0].toNat : Int)
        all_goals
          have HF : Hid (inB q0 q1 q2 q3 (s[0].toNat : Int) = _) := hf
          have HR3 : Hid ((if inB q0 q1 q2 q3 (s[0].toNat : Int) = true then 0 else 1) + 1 + changes (inB q0 q1 q2 q3) s.data.toList = r) := by
            show _ = _
            have := HR.out; rw [HR2.out] at this; exact this.symm
          rw [hf] at HR3
          simp at HR3
          clear hf HR2 HR
          go_wp2_with fail
          go_region_held3 (fun w' => w'.cell? ⟨w.heap.size, 0, none⟩ = some (.int .u64 q0) ∧ w'.cell? ⟨w.heap.size, 1, none⟩ = some (.int .u64 q1) ∧ w'.cell? ⟨w.heap.size, 2, none⟩ = some (.int .u64 q2) ∧ w'.cell? ⟨w.heap.size, 3, none⟩ = some (.int .u64 q3)) (first | exact HL.out | exact HL.out.drew.below (by assumption) SL) ((go_at_call 11; refine (inb_any q0 q1 q2 q3 _ b0 b1 h0 h1 h2 h3 _).mono ?_; rintro e w5 ⟨rfl, hb5⟩; rw [HF.out]))
          have H5 : Hid (Lies w5 w.heap.size q0 q1 q2 q3) := HL.out.drew.below hb5 SL
          have S5 : w.heap.size < w5.heap.size := by have := hb5.size; simp at this; omega
          have HB5 : Hid (Below w.heap.size w w5) := HB.out.drew.trans (hb5.mono (by simp; omega))
          clear hb5 HL HC HO HB c0 c1 c2 c3 SC SL HF b0 b1
          go_wp2_with fail
          go_loopw [13, 14] (fun vw vj wr => ∃ v j : Nat, 1 ≤ j ∧ j ≤ s.size ∧ v ≤ j + 1 ∧ vw = .int .i64 v ∧ vj = .int .i64 j ∧ Hid (Lies wr w.heap.size q0 q1 q2 q3) ∧ w.heap.size < wr.heap.size ∧ Hid (Below w.heap.size w wr) ∧ Hid (v + changes (inB q0 q1 q2 q3) (s.data.toList.drop (j - 1)) = r)) (fun _ vj _ => s.size - (intOf vj).toNat)
          case atStart => first | exact ⟨1, 1, Nat.le_refl _, hpos, by omega, rfl, rfl, H5, S5, HB5, HR3⟩ | exact ⟨2, 1, Nat.le_refl _, hpos, by omega, rfl, rfl, H5, S5, HB5, HR3⟩
          case round =>
            clear H5 S5 HB5 HR3
            obtain ⟨v, j, hj1, hj2, hv, rfl, rfl, HL, SL, HB, HV⟩ := hrel
            by_cases hlt3 : j < s.size
            · have hj' : j - 1 < s.size := by omega
              obtain ⟨fa, hfa⟩ : ∃ fa, inB q0 q1 q2 q3 (s[j].toNat : Int) = fa := ⟨_, rfl⟩
              obtain ⟨fb, hfb⟩ : ∃ fb, inB q0 q1 q2 q3 (s[j - 1].toNat : Int) = fb := ⟨_, rfl⟩
              have HA : Hid (inB q0 q1 q2 q3 (s[j].toNat : Int) = fa) := hfa
              have HBB : Hid (inB q0 q1 q2 q3 (s[j - 1].toNat : Int) = fb) := hfb
              obtain ⟨a0, a1⟩ := byte_le s[j]
              obtain ⟨b0, b1⟩ := byte_le s[j - 1]
              have HV3 : Hid (v + (if ((!fa) == fb) = true then 1 else 0) + changes (inB q0 q1 q2 q3) (s.data.toList.drop j) = r) := by
                show _ = _
                have e := changes_two (inB q0 q1 q2 q3) s.data.toList (j - 1) (by simp; omega)
                have a := HV.out
                simp only [show j - 1 + 1 = j from by omega] at e
                have e2 : inB q0 q1 q2 q3 ((s.data.toList[j - 1]'(by simp; omega)).toNat : Int) = fb := hfb
                have e3 : inB q0 q1 q2 q3 ((s.data.toList[j]'(by simp; omega)).toNat : Int) = fa := hfa
                rw [e2, e3] at e
                have e4 : (fb != fa) = ((!fa) == fb) := by cases fa <;> cases fb <;> rfl
                rw [e4] at e
                omega
              clear hfa hfb HV
              obtain ⟨c0, c1, c2, c3⟩ := HL.out
              go_wp2_with fail
              have hix := fun wx => idx_prev s j hj1 hj' wx
              have hij := fun wx => idx_at s j hlt3 wx
              have hwr : wrap64 ((j : Int) - 1) = (j : Int) - 1 := IntWalk.wrap64_in _ ⟨by omega, by omega⟩
              have hwq : IntKind.i64.wrap ((j : Int) - 1) = (j : Int) - 1 := by rw [IntKind.wrap_i64]; omega
              go_region_held3 (fun w' => w'.cell? ⟨w.heap.size, 0, none⟩ = some (.int .u64 q0) ∧ w'.cell? ⟨w.heap.size, 1, none⟩ = some (.int .u64 q1) ∧ w'.cell? ⟨w.heap.size, 2, none⟩ = some (.int .u64 q2) ∧ w'.cell? ⟨w.heap.size, 3, none⟩ = some (.int .u64 q3) ∧ w.heap.size < w'.heap.size ∧ Below w.heap.size w w') (first | exact ⟨c0, c1, c2, c3, SL, HB.out.drew⟩ | assumption | (refine keep4 ?_ (by assumption); assumption)) ((go_at_call 11; refine (inb_any q0 q1 q2 q3 _ (byte_le _).1 (byte_le _).2 h0 h1 h2 h3 _).mono ?_; rintro e w5 ⟨rfl, hb5⟩; first | rw [HA.out] | rw [HBB.out]))
              all_goals
                have hS : w5.cell? ⟨w.heap.size, 0, none⟩ = some (.int .u64 q0) ∧ w5.cell? ⟨w.heap.size, 1, none⟩ = some (.int .u64 q1) ∧ w5.cell? ⟨w.heap.size, 2, none⟩ = some (.int .u64 q2) ∧ w5.cell? ⟨w.heap.size, 3, none⟩ = some (.int .u64 q3) ∧ w.heap.size < w5.heap.size ∧ Below w.heap.size w w5 := by assumption
                have H5 : Hid (Lies w5 w.heap.size q0 q1 q2 q3) := ⟨hS.1, hS.2.1, hS.2.2.1, hS.2.2.2.1⟩
                have S5 := hS.2.2.2.2.1
                have HB5 : Hid (Below w.heap.size w w5) := hS.2.2.2.2.2
                clear hS
                cases fa <;> cases fb
                all_goals
                  simp at HV3
                  go_wp2
                  go_roundw
                  case rel => first | exact ⟨v, j + 1, by omega, by omega, by omega, by go_num, by go_num, H5, S5, HB5, HV3⟩ | exact ⟨v + 1, j + 1, by omega, by omega, by omega, by go_num, by go_num, H5, S5, HB5, HV3⟩
                  case measure => simp [intOf]; omega
            · have hjs : s.size ≤ j := by omega
              have e := changes_last (inB q0 q1 q2 q3) s.data.toList (j - 1) (by simp; omega)
              have tv : ((r : Int) == (v : Int)) = true := by have a := HV.out; rw [e] at a; simp; omega
              clear e HV
              go_wp2
              go_ret
              exact ⟨rfl, HB.out⟩

set_option maxHeartbeats 400000 in
theorem walk4_long (s : ByteArray) (hs : 1048576 < s.size) (q0 q1 q2 q3 : Int) (w : World) :
    Calls Try.prog 4 #[.string s, .agg #[.int .u64 q0, .int .u64 q1, .int .u64 q2, .int .u64 q3]] w fun e w' => e = .returned (.bool true) ∧ Below w.heap.size w w' := by
  go_enter Try.func4, Try.ntmps4
  go_wp2_with fail
  refine (zb12_no s hs q0 q1 q2 q3 _).mono ?_
  rintro e w1 ⟨rfl, hb1⟩
  go_wp2
  go_ret
  exact ⟨rfl, ((Below.refl _ _).alloc (Nat.le_refl _) _).trans (hb1.mono (by simp))⟩

set_option maxHeartbeats 400000 in
theorem walk4_mid (s : ByteArray) (hs : s.size ≤ 1048576) (h : 65536 < s.size) (q0 q1 q2 q3 : Int) (w : World) :
    Calls Try.prog 4 #[.string s, .agg #[.int .u64 q0, .int .u64 q1, .int .u64 q2, .int .u64 q3]] w fun e w' => e = .returned (.bool true) ∧ Below w.heap.size w w' := by
  go_enter Try.func4, Try.ntmps4
  go_wp2_with fail
  refine (zb12_yes s hs q0 q1 q2 q3 _).mono ?_
  rintro e w1 ⟨rfl, hb1⟩
  go_wp2
  go_ret
  exact ⟨rfl, ((Below.refl _ _).alloc (Nat.le_refl _) _).trans (hb1.mono (by simp))⟩

theorem walk4 (s : ByteArray) (q0 q1 q2 q3 : Int) (h0 : Word q0) (h1 : Word q1) (h2 : Word q2) (h3 : Word q3) (w : World) :
    Calls Try.prog 4 #[.string s, .agg #[.int .u64 q0, .int .u64 q1, .int .u64 q2, .int .u64 q3]] w fun e w' => e = .returned (.bool true) ∧ Below w.heap.size w w' := by
  by_cases a : 1048576 < s.size
  · exact walk4_long s a q0 q1 q2 q3 w
  by_cases b : 65536 < s.size
  · exact walk4_mid s (by omega) b q0 q1 q2 q3 w
  exact walk4_core s (by omega) q0 q1 q2 q3 _ _ _ _ h0 h1 h2 h3 rfl rfl rfl rfl
    ⟨h0, h1, h2, h3, word_flip h0, word_flip h1, word_flip h2, word_flip h3, fun c => by simp [side], fun c => by rw [inB_flip h0 h1 h2 h3]; simp [side]⟩ w
end Go.Proofs.Qxb6613004a
