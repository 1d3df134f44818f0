/-
  PLAIN: the complement of a word: each bit turned.
-/
import Derived.Test.Qxb6613004aRun
namespace Go.Proofs.Qxb6613004a
open Go.RowKit

theorem bitB_nat (n : Nat) (h : n < 18446744073709551616) (c : Int) : bitB (n : Int) c = n.testBit (c % 64).toNat := by
  unfold bitB
  have hd : ((n : Int) / 2 ^ (c % 64).toNat) = ((n / 2 ^ (c % 64).toNat : Nat) : Int) := by
    rw [Int.natCast_ediv, Int.natCast_pow]; rfl
  have hle : n / 2 ^ (c % 64).toNat ≤ n := Nat.div_le_self _ _
  rw [hd, Nat.testBit_eq_decide_div_mod_eq]
  generalize n / 2 ^ (c % 64).toNat = m at hle ⊢
  rw [and_one_u64 _ (by omega) (by omega)]
  rw [Bool.eq_iff_iff]
  simp
  omega

theorem flip_nat (n : Nat) (h : n < 18446744073709551616) : bits .xor .u64 IntKind.u64.max (n : Int) = ((18446744073709551615 ^^^ n : Nat) : Int) := by
  have hm : IntKind.u64.max = ((18446744073709551615 : Nat) : Int) := rfl
  rw [hm]
  exact bits_xor_u64_nat _ _ (by omega) h

theorem flip_lt (n : Nat) (h : n < 18446744073709551616) : 18446744073709551615 ^^^ n < 18446744073709551616 := by
  have : 18446744073709551615 ^^^ n < 2 ^ 64 := Nat.xor_lt_two_pow (by omega) (by omega)
  omega

theorem flip_bit (n : Nat) (k : Nat) (hk : k < 64) : (18446744073709551615 ^^^ n).testBit k = !n.testBit k := by
  rw [Nat.testBit_xor]
  have : (18446744073709551615 : Nat).testBit k = true := by
    have e : (18446744073709551615 : Nat) = 2 ^ 64 - 1 := by decide
    rw [e, Nat.testBit_two_pow_sub_one]
    simpa using hk
  rw [this]
  simp

theorem word_flip {q : Int} (h : Word q) : Word (bits .xor .u64 IntKind.u64.max q) := by
  obtain ⟨a, b⟩ := h
  obtain ⟨n, rfl⟩ := Int.eq_ofNat_of_zero_le a
  have hn : n < 18446744073709551616 := by omega
  have := flip_lt n hn
  rw [flip_nat n hn]
  exact ⟨by omega, by omega⟩

theorem bitB_flip {q : Int} (h : Word q) (c : Int) : bitB (bits .xor .u64 IntKind.u64.max q) c = !bitB q c := by
  obtain ⟨a, b⟩ := h
  obtain ⟨n, rfl⟩ := Int.eq_ofNat_of_zero_le a
  have hn : n < 18446744073709551616 := by omega
  rw [flip_nat n hn, bitB_nat _ (flip_lt n hn), bitB_nat n hn, flip_bit _ _ (by omega)]

theorem inB_flip {q0 q1 q2 q3 : Int} (h0 : Word q0) (h1 : Word q1) (h2 : Word q2) (h3 : Word q3) (c : Int) :
    inB (bits .xor .u64 IntKind.u64.max q0) (bits .xor .u64 IntKind.u64.max q1) (bits .xor .u64 IntKind.u64.max q2) (bits .xor .u64 IntKind.u64.max q3) c = !inB q0 q1 q2 q3 c := by
  unfold inB wordAt
  split
  · exact bitB_flip h0 c
  split
  · exact bitB_flip h1 c
  split
  · exact bitB_flip h2 c
  · exact bitB_flip h3 c

end Go.Proofs.Qxb6613004a
