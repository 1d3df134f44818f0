/-
  THE WALK of zzOneByte.
-/
import Derived.Test.Qxb6613004aTerm5
namespace Go.Proofs.Qxb6613004a
open Go.RowKit

/-- The string of one byte. -/
def oneS (k : Nat) : ByteArray := ⟨#[UInt8.ofNat k]⟩

theorem oneByte (k : Nat) (hk : k ≤ 255) : ((UInt8.ofNat k).toNat : Int) = (k : Int) := by
  rw [UInt8.toNat_ofNat']; omega

theorem one_conv (k : Nat) (hk : k ≤ 255) (w : World) :
    (convert 44 9 (.slice (some ⟨w.heap.size, 0, none⟩) 1 1)).run Try.prog (w.alloc (.cells #[.int .u8 (k : Int)] 5)) = .ok (.string (oneS k)) (w.alloc (.cells #[.int .u8 (k : Int)] 5)) := by
  have := run_convert_bytes_back (P := Try.prog) (w.alloc (.cells #[.int .u8 (k : Int)] 5)) 44 9 5 ⟨w.heap.size, 0, none⟩ 1 [UInt8.ofNat k] Try.underlying44 Try.underlying5 Try.underlying9
    (by
      intro j hj
      have e : j = 0 := by simpa using hj
      subst e
      show _ = some (Value.int .u8 ((UInt8.ofNat k).toNat : Int))
      rw [oneByte k hk]
      simp [Addr.add])
  exact this

set_option maxHeartbeats 400000 in
theorem one_any (k : Nat) (hk : k ≤ 255) (w : World) :
    Calls Try.prog 17 #[.int .u8 k] w fun e w' => e = .returned (.string (oneS k)) ∧ Below w.heap.size w w' := by
  have hc := one_conv k hk w
  go_enter Try.func17, Try.ntmps17
  go_wp2
  go_ret
  exact ⟨rfl, (Below.refl _ _).alloc (Nat.le_refl _) _⟩

theorem oneS_size (k : Nat) : (oneS k).size = 1 := rfl
theorem atB_one (k : Nat) (hk : k ≤ 255) : atB (oneS k) 0 = (k : Int) := by
  unfold atB
  rw [dif_pos (by rw [oneS_size]; omega)]
  exact oneByte k hk
theorem atB_one1 (k : Nat) : atB (oneS k) 1 = -1 := by
  unfold atB
  rw [dif_neg (by rw [oneS_size]; omega)]
theorem size_app (k : Nat) (t : ByteArray) : (oneS k ++ t).size = 1 + t.size := by rw [ByteArray.size_append, oneS_size]
theorem atB_app (k : Nat) (hk : k ≤ 255) (t : ByteArray) : atB (oneS k ++ t) 0 = (k : Int) := by
  have h : 0 < (oneS k ++ t).size := by rw [size_app]; omega
  unfold atB
  rw [dif_pos h, ByteArray.getElem_append_left (by rw [oneS_size]; omega)]
  exact oneByte k hk
theorem atB_app1 (k : Nat) (t : ByteArray) : atB (oneS k ++ t) 1 = atB t 0 := by
  unfold atB
  by_cases h : 0 < t.size
  · rw [dif_pos h, dif_pos (by rw [size_app]; omega), ByteArray.getElem_append_right (by rw [oneS_size]; omega)]
    simp only [oneS_size, Nat.sub_self]
  · rw [dif_neg h, dif_neg (by rw [size_app]; omega)]

/-- Over the first byte k, the next byte being open to d: is it plain? -/
def gB (d : Bool) (k : Nat) : Bool := if k = 91 then d else (decide (k < 128) && (k != 92))
/-- How many j < k answer yes. -/
def cnt (f : Nat → Bool) : Nat → Nat
  | 0 => 0
  | k + 1 => cnt f k + if f k = true then 1 else 0
theorem cnt_le (f : Nat → Bool) (k : Nat) : cnt f k ≤ k := by
  induction k with
  | zero => exact Nat.le_refl _
  | succ k ih => simp only [cnt]; split <;> omega
theorem cnt_true : cnt (gB true) 256 = 127 := by decide +kernel
theorem cnt_false : cnt (gB false) 256 = 126 := by decide +kernel

theorem plainB_g (k : Nat) (nx : Int) : plainB (k : Int) nx = gB (decide (nx < 0) || !delimB nx) k := by
  unfold plainB gB
  by_cases h : k = 91
  · rw [if_pos (by omega), if_pos h]
  · rw [if_neg (by omega), if_neg h]
    have e1 : decide ((k : Int) < 128) = decide (k < 128) := by rw [Bool.eq_iff_iff]; simp; omega
    have e2 : ((k : Int) != 92) = (k != 92) := by rw [Bool.eq_iff_iff]; simp; omega
    rw [e1, e2]

theorem term_one (k : Nat) (hk : k ≤ 255) : termB (oneS k) = gB true k := by
  unfold termB
  rw [atB_one k hk, atB_one1, plainB_g]
  rfl
theorem term_app (k : Nat) (hk : k ≤ 255) (t : ByteArray) : termB (oneS k ++ t) = gB (decide (atB t 0 < 0) || !delimB (atB t 0)) k := by
  unfold termB
  rw [atB_app k hk t, atB_app1, plainB_g]
end Go.Proofs.Qxb6613004a
