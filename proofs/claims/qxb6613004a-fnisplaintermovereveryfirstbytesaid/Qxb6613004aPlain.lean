/-
  THE WALKS of isPlainTerm and what it calls, of zzOpensBracketName and the bounds.
-/
import Derived.Test.Qxb6613004aRows
import Derived.WalkKit
import Derived.WalkSpells
import Derived.WalkLawsBesides
import Derived.Deep.QuietTactic
import Derived.BigQuiet
namespace Go.Proofs.Qxb6613004a
open Go.RowKit

/-- Does c, after an opening bracket, open a name? -/
def delimB (c : Int) : Bool := c == 58 || c == 61 || c == 46
/-- A term that begins with c, followed by nx (-1: by nothing), is c alone. -/
def plainB (c nx : Int) : Bool := if c = 91 then (decide (nx < 0) || !delimB nx) else (decide (c < 128) && (c != 92))
/-- The byte at i, or -1. -/
def atB (s : ByteArray) (i : Nat) : Int := if h : i < s.size then (s[i].toNat : Int) else -1
/-- isPlainTerm. -/
def termB (s : ByteArray) : Bool := plainB (atB s 0) (atB s 1)

theorem ret_bool {a b : Bool} (h : a = b) : Ending.returned (.bool a) = .returned (.bool b) := by rw [h]
theorem ret_i64 {a b : Int} (h : a = b) : Ending.returned (.int .i64 a) = .returned (.int .i64 b) := by rw [h]

set_option maxHeartbeats 400000 in
theorem delim_any (c : Int) (w : World) : Calls Try.prog 32 #[.int .u8 c] w fun e w' => e = .returned (.bool (delimB c)) ∧ w' = w := by
  go_enter Try.func32, Try.ntmps32
  go_wp2
  all_goals
    go_ret
    exact ⟨ret_bool (by simp [delimB, *]), rfl⟩

set_option maxHeartbeats 400000 in
theorem plainByte_any (c nx : Int) (_h0 : 0 ≤ c) (_h1 : c ≤ 255) (_h2 : -1 ≤ nx) (_h3 : nx ≤ 255) (w : World) :
    Calls Try.prog 30 #[.int .u8 c, .int .i64 nx] w fun e w' => e = .returned (.bool (plainB c nx)) ∧ w' = w := by
  by_cases a : c = 91
  · subst a
    by_cases b : nx < 0
    · go_enter Try.func30, Try.ntmps30
      go_wp2
      go_ret
      exact ⟨ret_bool (by simp [plainB, b]), rfl⟩
    · have hw : IntKind.u8.wrap nx = nx := by rw [IntKind.wrap_u8]; omega
      have b' : 0 ≤ nx := by omega
      go_enter Try.func30, Try.ntmps30
      go_wp2_with (go_at_call 32; refine (delim_any _ _).mono ?_; rintro e w' ⟨rfl, rfl⟩)
      go_ret
      exact ⟨ret_bool (by simp [plainB]; omega), rfl⟩
  · have a' : (c == 91) = false := beq_eq_false_iff_ne.2 a
    go_enter Try.func30, Try.ntmps30
    go_wp2
    all_goals
      go_ret
      exact ⟨ret_bool (by first | (simp [plainB, *]; done) | (simp [plainB, *]; omega)), rfl⟩

set_option maxHeartbeats 400000 in
theorem byteAt_any (s : ByteArray) (hs : s.size ≤ 1048577) (w : World) :
    Calls Try.prog 31 #[.string s, .int .i64 1] w fun e w' => e = .returned (.int .i64 (atB s 1)) ∧ w' = w := by
  by_cases h : 1 < s.size
  · have b := s[1].toNat_lt
    go_enter Try.func31, Try.ntmps31
    go_wp2
    go_ret
    exact ⟨ret_i64 (by simp [atB, h]), rfl⟩
  · go_enter Try.func31, Try.ntmps31
    go_wp2
    go_ret
    exact ⟨ret_i64 (by simp [atB, h]), rfl⟩

theorem atB_bd (s : ByteArray) (i : Nat) : -1 ≤ atB s i ∧ atB s i ≤ 255 := by
  unfold atB
  split
  · have := s[i].toNat_lt; omega
  · omega

set_option maxHeartbeats 400000 in
theorem term_any (s : ByteArray) (hs : s.size ≤ 1048577) (hp : 0 < s.size) (w : World) :
    Calls Try.prog 27 #[.string s] w fun e w' => e = .returned (.bool (termB s)) ∧ ∃ n, w' = w.drewN n := by
  have b := s[0].toNat_lt
  have hb0 : (0 : Int) ≤ (s[0].toNat : Int) := by omega
  have hb1 : (s[0].toNat : Int) ≤ 255 := by omega
  have HE : Hid (termB s = plainB (s[0].toNat : Int) (atB s 1)) := by unfold termB; rw [show atB s 0 = (s[0].toNat : Int) from by simp [atB, hp]]; rfl
  have hpI : (0 : Int) < (s.size : Int) := by omega
  obtain ⟨y, hy⟩ : ∃ y, atB s 1 = y := ⟨_, rfl⟩
  have HY : Hid (atB s 1 = y) := hy
  have b2 := atB_bd s 1
  rw [hy] at HE b2
  obtain ⟨b3, b4⟩ := b2
  clear hy b
  rw [HE.out]
  go_enter Try.func27, Try.ntmps27
  go_wp2
  go_quiet ((first | (go_at_call 31; exact Calls.quiet_of_same ((byteAt_any s hs _).mono (by rw [HY.out]; exact fun _ _ h => h))) | (go_at_call 30; exact Calls.quiet_of_same (plainByte_any _ _ hb0 hb1 b3 b4 _))))
  go_wp2
  go_ret
  exact ⟨rfl, _, rfl⟩

set_option maxHeartbeats 400000 in
theorem zterm_any (s : ByteArray) (hs : s.size ≤ 1048577) (hp : 0 < s.size) (w : World) :
    Calls Try.prog 14 #[.string s] w fun e w' => e = .returned (.bool (termB s)) ∧ ∃ n, w' = w.drewN n := by
  go_enter Try.func14, Try.ntmps14
  go_wp2_with fail
  refine (term_any s hs hp _).mono ?_
  rintro e w1 ⟨rfl, n, rfl⟩
  go_wp2
  go_ret
  exact ⟨rfl, _, rfl⟩

/-- s opens a class, an equivalence class or a collating symbol. -/
def openB (s : ByteArray) : Bool := decide (1 < s.size) && (atB s 0 == 91) && delimB (atB s 1)

set_option maxHeartbeats 400000 in
theorem opens_any (s : ByteArray) (hs : s.size ≤ 1048577) (w : World) :
    Calls Try.prog 15 #[.string s] w fun e w' => e = .returned (.bool (openB s)) ∧ w' = w := by
  by_cases h : 1 < s.size
  · have e0 : atB s 0 = (s[0].toNat : Int) := by simp [atB, show 0 < s.size from by omega]
    have e1 : atB s 1 = (s[1].toNat : Int) := by simp [atB, h]
    have HO : Hid (openB s = (((s[0].toNat : Int) == 91) && (((s[1].toNat : Int) == 58) || ((s[1].toNat : Int) == 61) || ((s[1].toNat : Int) == 46)))) := by
      show _ = _
      unfold openB delimB; rw [e0, e1]; simp [h]
    rw [HO.out]
    clear e0 e1
    go_enter Try.func15, Try.ntmps15
    go_wp2
    all_goals
      go_ret
      exact ⟨ret_bool (by simp [*]), rfl⟩
  · have HO : Hid (openB s = false) := by
      show _ = _
      unfold openB; simp [h]
    rw [HO.out]
    go_enter Try.func15, Try.ntmps15
    go_wp2
    go_ret
    exact ⟨rfl, rfl⟩
end Go.Proofs.Qxb6613004a
