/-
  PLAIN: runs taken in turn under a test and under its complement tile a list; how many there are. No Go in sight.
-/
import Derived.Test.Qxb6613004aLead
namespace Go.Proofs.Qxb6613004a.Lead

/-- The test or its complement. -/
def side (f : Int → Bool) (b : Bool) (c : Int) : Bool := f c == b

/-- How many adjacent pairs of the list part under f. -/
def changes (f : Int → Bool) : List UInt8 → Nat
  | [] => 0
  | [_] => 0
  | c :: d :: t => (if (f (c.toNat : Int) != f (d.toNat : Int)) = true then 1 else 0) + changes f (d :: t)

/-- How many runs are still to come, the next one under side b. -/
def need (f : Int → Bool) (b : Bool) : List UInt8 → Nat
  | [] => 0
  | c :: t => (if f (c.toNat : Int) = b then 0 else 1) + 1 + changes f (c :: t)

theorem changes_lt (f : Int → Bool) (c : UInt8) (t : List UInt8) : changes f (c :: t) ≤ t.length := by
  induction t generalizing c with
  | nil => simp [changes]
  | cons d t ih =>
    have := ih d
    simp only [changes, List.length_cons]
    split <;> omega

theorem need_le (f : Int → Bool) (b : Bool) (l : List UInt8) : need f b l ≤ l.length + 1 := by
  cases l with
  | nil => simp [need]
  | cons c t =>
    have := changes_lt f c t
    simp only [need, List.length_cons]
    split <;> omega

theorem need_pos (f : Int → Bool) (b : Bool) (l : List UInt8) (h : l ≠ []) : 1 ≤ need f b l := by
  cases l with
  | nil => exact absurd rfl h
  | cons c t => simp only [need]; omega

theorem side_self {f : Int → Bool} {b : Bool} {c : Int} (h : f c = b) : side f b c = true := by simp [side, h]
theorem side_not {f : Int → Bool} {b : Bool} {c : Int} (h : f c ≠ b) : side f b c = false := by simp [side, h]

theorem changes_run (f : Int → Bool) (b : Bool) (c : UInt8) (t : List UInt8) (h : f (c.toNat : Int) = b) :
    changes f (c :: t) = need f (!b) (t.drop (lead (side f b) t)) := by
  induction t generalizing c with
  | nil => simp [changes, need]
  | cons d t ih =>
    by_cases e : f (d.toNat : Int) = b
    · rw [lead_cons_true (side_self e), List.drop_succ_cons, ← ih d e]
      simp [changes, h, e]
    · rw [lead_cons_false (side_not e), List.drop_zero]
      have e' : f (d.toNat : Int) = !b := by cases b <;> simp_all
      simp [changes, need, h, e']

/-- One run taken: one fewer is to come. -/
theorem need_step (f : Int → Bool) (b : Bool) (l : List UInt8) (h : l ≠ []) : need f b l = 1 + need f (!b) (l.drop (lead (side f b) l)) := by
  cases l with
  | nil => exact absurd rfl h
  | cons c t =>
    by_cases e : f (c.toNat : Int) = b
    · rw [lead_cons_true (side_self e), List.drop_succ_cons, ← changes_run f b c t e]
      simp [need, e]
    · rw [lead_cons_false (side_not e), List.drop_zero]
      have e' : f (c.toNat : Int) = !b := by cases b <;> simp_all
      simp only [need, e']
      simp
      omega

/-- Behind a run the next byte, if any, is of the other side. -/
theorem next_side (f : Int → Bool) (b : Bool) (l : List UInt8) (h : lead (side f b) l < l.length) : f ((l[lead (side f b) l]'h).toNat : Int) = !b := by
  have := lead_stop (side f b) l h
  simp only [side] at this
  cases b <;> simp_all

/-- A byte of the side in turn: the run is not empty. -/
theorem lead_pos (f : Int → Bool) (b : Bool) (l : List UInt8) (h : 0 < l.length) (hc : f ((l[0]'h).toNat : Int) = b) : 1 ≤ lead (side f b) l := by
  cases l with
  | nil => simp at h
  | cons c t =>
    rw [lead_cons_true (side_self (by simpa using hc))]; omega

theorem lead_congr {f g : Int → Bool} (h : ∀ c : UInt8, f (c.toNat : Int) = g (c.toNat : Int)) (l : List UInt8) : lead f l = lead g l := by
  induction l with
  | nil => rfl
  | cons c t ih => simp only [lead, h, ih]

theorem changes_two (f : Int → Bool) (l : List UInt8) (j : Nat) (h : j + 1 < l.length) :
    changes f (l.drop j) = (if (f ((l[j]'(by omega)).toNat : Int) != f ((l[j + 1]'h).toNat : Int)) = true then 1 else 0) + changes f (l.drop (j + 1)) := by
  rw [List.drop_eq_getElem_cons (show j < l.length by omega), List.drop_eq_getElem_cons h]
  rfl

theorem changes_last (f : Int → Bool) (l : List UInt8) (j : Nat) (h : j + 1 = l.length) : changes f (l.drop j) = 0 := by
  rw [List.drop_eq_getElem_cons (show j < l.length by omega), List.drop_of_length_le (by omega)]
  rfl

end Go.Proofs.Qxb6613004a.Lead
