/-
  THE WALKS of LeadingRun, ZZLeadingRunIn, its closure and zzInBits.
-/
import Derived.Test.Qxb6613004aRows
import Derived.Test.Qxb6613004aLead
import Derived.WalkKit
import Derived.WalkSpells
import Derived.WalkLawsBesides
namespace Go.Proofs.Qxb6613004a
open Go.RowKit
open Lead

/-- Bit c mod 64 of the word q. -/
def bitB (q c : Int) : Bool := bits .and .u64 (q / 2 ^ (c % 64).toNat) 1 != 0
/-- The word of byte c. -/
def wordAt (q0 q1 q2 q3 c : Int) : Int := if c < 64 then q0 else if c < 128 then q1 else if c < 192 then q2 else q3
/-- Is byte c in the map? -/
def inB (q0 q1 q2 q3 c : Int) : Bool := bitB (wordAt q0 q1 q2 q3 c) c

def Word (q : Int) : Prop := 0 ≤ q ∧ q ≤ 18446744073709551615

theorem wordAt_word {q0 q1 q2 q3 : Int} (h0 : Word q0) (h1 : Word q1) (h2 : Word q2) (h3 : Word q3) (c : Int) : Word (wordAt q0 q1 q2 q3 c) := by
  unfold wordAt; split
  · exact h0
  split
  · exact h1
  split
  · exact h2
  · exact h3

/-- The four words lie in block B. -/
def Lies (w : World) (B : Nat) (q0 q1 q2 q3 : Int) : Prop :=
  w.cell? ⟨B, 0, none⟩ = some (.int .u64 q0) ∧ w.cell? ⟨B, 1, none⟩ = some (.int .u64 q1) ∧
  w.cell? ⟨B, 2, none⟩ = some (.int .u64 q2) ∧ w.cell? ⟨B, 3, none⟩ = some (.int .u64 q3)

theorem Lies.at {w : World} {B : Nat} {q0 q1 q2 q3 : Int} (h : Lies w B q0 q1 q2 q3) (c : Int) (hc0 : 0 ≤ c) (hc1 : c ≤ 255) :
    w.cell? ⟨B, (c / 64).toNat, none⟩ = some (.int .u64 (wordAt q0 q1 q2 q3 c)) := by
  obtain ⟨h0, h1, h2, h3⟩ := h
  unfold wordAt
  by_cases a : c < 64
  · rw [if_pos a, show (c / 64).toNat = 0 from by omega]; exact h0
  rw [if_neg a]
  by_cases b : c < 128
  · rw [if_pos b, show (c / 64).toNat = 1 from by omega]; exact h1
  rw [if_neg b]
  by_cases d : c < 192
  · rw [if_pos d, show (c / 64).toNat = 2 from by omega]; exact h2
  rw [if_neg d, show (c / 64).toNat = 3 from by omega]; exact h3

theorem Lies.new (w : World) (q0 q1 q2 q3 : Int) (t : TypeId) :
    Lies (w.alloc (.cells #[.int .u64 q0, .int .u64 q1, .int .u64 q2, .int .u64 q3] t)) w.heap.size q0 q1 q2 q3 := by
  refine ⟨?_, ?_, ?_, ?_⟩ <;> simp

theorem Lies.below {w w' : World} {B n : Nat} {q0 q1 q2 q3 : Int} (h : Lies w B q0 q1 q2 q3) (hb : Below n w w') (hB : B < n) : Lies w' B q0 q1 q2 q3 := by
  obtain ⟨h0, h1, h2, h3⟩ := h
  exact ⟨(hb.cell (p := ⟨B, 0, none⟩) hB).trans h0, (hb.cell (p := ⟨B, 1, none⟩) hB).trans h1, (hb.cell (p := ⟨B, 2, none⟩) hB).trans h2, (hb.cell (p := ⟨B, 3, none⟩) hB).trans h3⟩

theorem Lies.drew {w : World} {B : Nat} {q0 q1 q2 q3 : Int} (h : Lies w B q0 q1 q2 q3) : Lies w.drew B q0 q1 q2 q3 := h

set_option maxHeartbeats 400000 in
theorem clos_core (B : Nat) (q c : Int) (hc0 : 0 ≤ c) (hc1 : c ≤ 255) (_hq0 : 0 ≤ q) (_hq1 : q ≤ 18446744073709551615) (w : World)
    (h : w.cell? ⟨B, (c / 64).toNat, none⟩ = some (.int .u64 q)) :
    Calls Try.prog 26 #[.int .u8 c, .pointer (some ⟨B, 0, none⟩)] w fun e w' => e = .returned (.bool (bitB q c)) ∧ w' = w := by
  go_enter Try.func26, Try.ntmps26
  go_wp2
  go_ret
  exact ⟨rfl, rfl⟩

theorem clos_any (B : Nat) (q0 q1 q2 q3 c : Int) (hc0 : 0 ≤ c) (hc1 : c ≤ 255) (h0 : Word q0) (h1 : Word q1) (h2 : Word q2) (h3 : Word q3) (w : World)
    (h : Lies w B q0 q1 q2 q3) :
    Calls Try.prog 26 #[.int .u8 c, .pointer (some ⟨B, 0, none⟩)] w fun e w' => e = .returned (.bool (inB q0 q1 q2 q3 c)) ∧ w' = w := by
  have hw := wordAt_word h0 h1 h2 h3 c
  exact clos_core B _ c hc0 hc1 hw.1 hw.2 w (h.at c hc0 hc1)

set_option maxHeartbeats 400000 in
theorem inb_core (q0 q1 q2 q3 q c : Int) (hc0 : 0 ≤ c) (hc1 : c ≤ 255) (_hq0 : 0 ≤ q) (_hq1 : q ≤ 18446744073709551615) (w : World)
    (h : ((w.alloc (.cells #[.int .u64 q0, .int .u64 q1, .int .u64 q2, .int .u64 q3] 23)).cell? ⟨w.heap.size, (c / 64).toNat, none⟩ = some (.int .u64 q))) :
    Calls Try.prog 11 #[.agg #[.int .u64 q0, .int .u64 q1, .int .u64 q2, .int .u64 q3], .int .u8 c] w fun e w' => e = .returned (.bool (bitB q c)) ∧ Below w.heap.size w w' := by
  go_enter Try.func11, Try.ntmps11
  go_wp2
  go_ret
  exact ⟨rfl, (Below.refl _ _).alloc (Nat.le_refl _) _⟩

theorem inb_any (q0 q1 q2 q3 c : Int) (hc0 : 0 ≤ c) (hc1 : c ≤ 255) (h0 : Word q0) (h1 : Word q1) (h2 : Word q2) (h3 : Word q3) (w : World) :
    Calls Try.prog 11 #[.agg #[.int .u64 q0, .int .u64 q1, .int .u64 q2, .int .u64 q3], .int .u8 c] w fun e w' => e = .returned (.bool (inB q0 q1 q2 q3 c)) ∧ Below w.heap.size w w' := by
  have hw := wordAt_word h0 h1 h2 h3 c
  exact inb_core q0 q1 q2 q3 _ c hc0 hc1 hw.1 hw.2 w ((Lies.new w q0 q1 q2 q3 23).at c hc0 hc1)

theorem ret_int {k : IntKind} {a b : Int} (h : a = b) : Ending.returned (.int k a) = .returned (.int k b) := by rw [h]

theorem byte_le (c : UInt8) : (0 : Int) ≤ (c.toNat : Int) ∧ (c.toNat : Int) ≤ 255 := by
  have := c.toNat_lt; omega

theorem drop_cons (s : ByteArray) (k : Nat) (h : k < s.size) : s.data.toList.drop k = s[k] :: s.data.toList.drop (k + 1) := by
  rw [List.drop_eq_getElem_cons (by simpa using h)]; rfl

set_option maxHeartbeats 400000 in
theorem run_any (s : ByteArray) (hs : s.size ≤ 1048576) (B : Nat) (q0 q1 q2 q3 : Int) (h0 : Word q0) (h1 : Word q1) (h2 : Word q2) (h3 : Word q3) (w : World)
    (h : Lies w B q0 q1 q2 q3) :
    Calls Try.prog 25 #[.string s, .func (.func 26) #[] #[.pointer (some ⟨B, 0, none⟩)]] w fun e w' => e = .returned (.int .i64 (lead (inB q0 q1 q2 q3) s.data.toList)) ∧ w' = w := by
  go_enter Try.func25, Try.ntmps25
  go_wp2
  go_loop [5] (fun n => ∃ k : Nat, k ≤ s.size ∧ n = .int .i64 k ∧ Hid (lead (inB q0 q1 q2 q3) s.data.toList = k + lead (inB q0 q1 q2 q3) (s.data.toList.drop k))) (fun n => s.size - (intOf n).toNat)
  case atStart => exact ⟨0, Nat.zero_le _, rfl, by show _ = _; simp⟩
  case round =>
    obtain ⟨k, hk, rfl, hl⟩ := hrel
    by_cases hlt : k < s.size
    · have hd := drop_cons s k hlt
      obtain ⟨b0, b1⟩ := byte_le s[k]
      cases hf : inB q0 q1 q2 q3 (s[k].toNat : Int) with
      | true =>
        have hl2 : Hid (lead (inB q0 q1 q2 q3) s.data.toList = (k + 1 : Nat) + lead (inB q0 q1 q2 q3) (s.data.toList.drop (k + 1))) := by
          have := hl.out; rw [hd, lead_cons_true hf] at this; show _ = _; omega
        have HF : Hid (inB q0 q1 q2 q3 (s[k].toNat : Int) = true) := hf
        clear hf hd hl
        go_wp2_with (go_at_call 26; refine (clos_any B q0 q1 q2 q3 _ b0 b1 h0 h1 h2 h3 _ h).mono ?_; rintro e w' ⟨rfl, rfl⟩; rw [HF.out])
        go_round
        case rel => exact ⟨k + 1, by omega, by go_num, hl2⟩
        case measure => simp [intOf]; omega
      | false =>
        have hl2 : Hid (lead (inB q0 q1 q2 q3) s.data.toList = k) := by
          have := hl.out; rw [hd, lead_cons_false hf] at this; show _ = _; omega
        have HF : Hid (inB q0 q1 q2 q3 (s[k].toNat : Int) = false) := hf
        clear hf hd hl
        go_wp2_with (go_at_call 26; refine (clos_any B q0 q1 q2 q3 _ b0 b1 h0 h1 h2 h3 _ h).mono ?_; rintro e w' ⟨rfl, rfl⟩; rw [HF.out])
        go_ret
        exact ⟨ret_int (by rw [hl2.out]), rfl⟩
    · have hl2 : Hid (lead (inB q0 q1 q2 q3) s.data.toList = k) := by
        have := hl.out; rw [List.drop_of_length_le (by simp; omega)] at this; show _ = _; simpa [lead] using this
      clear hl
      go_wp2
      go_ret
      exact ⟨ret_int (by rw [hl2.out]), rfl⟩

set_option maxHeartbeats 400000 in
theorem zlr_any (s : ByteArray) (hs : s.size ≤ 1048576) (q0 q1 q2 q3 : Int) (h0 : Word q0) (h1 : Word q1) (h2 : Word q2) (h3 : Word q3) (w : World) :
    Calls Try.prog 10 #[.string s, .agg #[.int .u64 q0, .int .u64 q1, .int .u64 q2, .int .u64 q3]] w fun e w' => e = .returned (.int .i64 (lead (inB q0 q1 q2 q3) s.data.toList)) ∧ Below w.heap.size w w' := by
  have hl := Lies.new w q0 q1 q2 q3 23
  go_enter Try.func10, Try.ntmps10
  go_wp2_with (go_at_call 25; refine (run_any s hs _ q0 q1 q2 q3 h0 h1 h2 h3 _ hl).mono ?_; rintro e w' ⟨rfl, rfl⟩)
  go_ret
  exact ⟨rfl, (Below.refl _ _).alloc (Nat.le_refl _) _⟩
end Go.Proofs.Qxb6613004a
