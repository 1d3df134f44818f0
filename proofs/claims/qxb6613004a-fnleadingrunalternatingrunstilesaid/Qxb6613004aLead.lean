/-
  PLAIN: the leading run of a list of bytes under a test. No Go in sight.
-/
import GoSem.Claim
namespace Go.Proofs.Qxb6613004a.Lead

/-- The length of the run of bytes at the start of the list that f accepts. -/
def lead (f : Int → Bool) : List UInt8 → Nat
  | [] => 0
  | c :: t => match f (c.toNat : Int) with
    | true => lead f t + 1
    | false => 0

theorem lead_cons_true {f : Int → Bool} {c : UInt8} {t : List UInt8} (h : f (c.toNat : Int) = true) : lead f (c :: t) = lead f t + 1 := by
  simp [lead, h]
theorem lead_cons_false {f : Int → Bool} {c : UInt8} {t : List UInt8} (h : f (c.toNat : Int) = false) : lead f (c :: t) = 0 := by
  simp [lead, h]

theorem lead_le (f : Int → Bool) (l : List UInt8) : lead f l ≤ l.length := by
  induction l with
  | nil => simp [lead]
  | cons c t ih =>
    cases h : f (c.toNat : Int) with
    | true => rw [lead_cons_true h]; simp; exact ih
    | false => rw [lead_cons_false h]; simp

theorem lead_at (f : Int → Bool) (l : List UInt8) (j : Nat) (hj : j < lead f l) (hl : j < l.length) : f ((l[j]'hl).toNat : Int) = true := by
  induction l generalizing j with
  | nil => simp at hl
  | cons c t ih =>
    cases h : f (c.toNat : Int) with
    | true =>
      rw [lead_cons_true h] at hj
      cases j with
      | zero => simpa using h
      | succ j => simpa using ih j (by omega) (by simpa using hl)
    | false => rw [lead_cons_false h] at hj; omega

theorem lead_stop (f : Int → Bool) (l : List UInt8) (hl : lead f l < l.length) : f ((l[lead f l]'hl).toNat : Int) = false := by
  induction l with
  | nil => simp at hl
  | cons c t ih =>
    cases h : f (c.toNat : Int) with
    | true =>
      have e := lead_cons_true (t := t) h
      have hl' : lead f t < t.length := by rw [e] at hl; simpa using hl
      have := ih hl'
      simpa [e] using this
    | false =>
      have e := lead_cons_false (t := t) h
      simpa [e] using h

theorem lead_take (f : Int → Bool) (l : List UInt8) (i : Nat) : lead f (l.take i) = min i (lead f l) := by
  induction l generalizing i with
  | nil => simp [lead]
  | cons c t ih =>
    cases i with
    | zero => simp [lead]
    | succ i =>
      cases h : f (c.toNat : Int) with
      | true => rw [List.take_succ_cons, lead_cons_true h, lead_cons_true h, ih]; omega
      | false => rw [List.take_succ_cons, lead_cons_false h, lead_cons_false h]; omega

theorem lead_drop (f : Int → Bool) (l : List UInt8) (i : Nat) (hi : i ≤ lead f l) : lead f l = i + lead f (l.drop i) := by
  induction l generalizing i with
  | nil => simp [lead] at hi ⊢; omega
  | cons c t ih =>
    cases i with
    | zero => simp
    | succ i =>
      cases h : f (c.toNat : Int) with
      | true =>
        rw [lead_cons_true h] at hi ⊢
        have := ih i (by omega)
        rw [List.drop_succ_cons]; omega
      | false => rw [lead_cons_false h] at hi; omega

/-- The law of the cut. -/
theorem lead_cut (f : Int → Bool) (l : List UInt8) (i : Nat) :
    (lead f (l.take i) = i → lead f l = i + lead f (l.drop i)) ∧ (lead f (l.take i) ≠ i → lead f l = lead f (l.take i)) := by
  rw [lead_take]
  constructor
  · intro h
    exact lead_drop f l i (by omega)
  · intro h
    omega

theorem extract_list (s : ByteArray) (a b : Nat) : (s.extract a b).data.toList = (s.data.toList.take b).drop a := by
  rw [ByteArray.data_extract, Array.toList_extract, List.extract_eq_take_drop, List.drop_take]

end Go.Proofs.Qxb6613004a.Lead
