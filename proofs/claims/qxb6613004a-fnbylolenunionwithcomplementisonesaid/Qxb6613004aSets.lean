/-
  PLAIN: sets of characters as lists of ranges; the complement; its length. No Go in sight.
-/
import GoSem.Claim
namespace Go.Proofs.Qxb6613004a.Sets

abbrev Rg : Type := Int × Int

/-- Normalized, from p on: ascending, neither overlapping nor touching, within the characters. -/
def Norm (p : Int) : List Rg → Prop
  | [] => True
  | r :: t => p ≤ r.1 ∧ r.1 ≤ r.2 ∧ r.2 ≤ 1114111 ∧ Norm (r.2 + 2) t

/-- What Complement makes, 'next' being the first character that is not yet spoken for. -/
def comp (nx : Int) : List Rg → List Rg
  | [] => if nx ≤ 1114111 then [(nx, 1114111)] else []
  | r :: t => (if nx < r.1 then [(nx, r.1 - 1)] else []) ++ comp (r.2 + 1) t

/-- Where 'next' ends. -/
def endN (nx : Int) : List Rg → Int
  | [] => nx
  | r :: t => endN (r.2 + 1) t

theorem comp_length (nx : Int) (rs : List Rg) (h : Norm (nx + 1) rs) : (comp nx rs).length = rs.length + (if endN nx rs ≤ 1114111 then 1 else 0) := by
  induction rs generalizing nx with
  | nil =>
    rw [show endN nx [] = nx from rfl]
    simp only [comp]
    by_cases e : nx ≤ 1114111
    · rw [if_pos e, if_pos e]; rfl
    · rw [if_neg e, if_neg e]; rfl
  | cons r t ih =>
    obtain ⟨h1, h2, h3, h4⟩ := h
    have := ih (r.2 + 1) (by rw [show r.2 + 1 + 1 = r.2 + 2 from by omega]; exact h4)
    rw [show endN nx (r :: t) = endN (r.2 + 1) t from rfl]
    simp only [comp]
    rw [if_pos (by omega), List.length_append, this, List.length_cons, List.length_cons, List.length_nil]
    omega

theorem comp_length0 (r : Rg) (t : List Rg) (h : Norm 0 (r :: t)) :
    (comp 0 (r :: t)).length = (if 0 < r.1 then 1 else 0) + t.length + (if endN (r.2 + 1) t ≤ 1114111 then 1 else 0) := by
  obtain ⟨h1, h2, h3, h4⟩ := h
  have := comp_length (r.2 + 1) t (by rw [show r.2 + 1 + 1 = r.2 + 2 from by omega]; exact h4)
  simp only [comp, List.length_append]
  rw [this]
  split <;> simp <;> omega

theorem endN_last (nx : Int) (rs : List Rg) (h : 0 < rs.length) : endN nx rs = (rs[rs.length - 1]'(by omega)).2 + 1 := by
  induction rs generalizing nx with
  | nil => simp at h
  | cons r t ih =>
    cases t with
    | nil => simp [endN]
    | cons r2 t => 
      have := ih (r.2 + 1) (by simp)
      simp only [endN] at this ⊢
      rw [this]
      simp

theorem comp_le (nx : Int) (rs : List Rg) : (comp nx rs).length ≤ rs.length + 1 := by
  induction rs generalizing nx with
  | nil => simp only [comp]; split <;> simp
  | cons r t ih =>
    have := ih (r.2 + 1)
    simp only [comp, List.length_append, List.length_cons]
    split <;> simp <;> omega

/-- The pairs of two rows of numbers. -/
def pairs (L H : Nat → Int) (n : Nat) : List Rg := (List.range n).map fun j => (L j, H j)

theorem pairs_length (L H : Nat → Int) (n : Nat) : (pairs L H n).length = n := by simp [pairs]
theorem pairs_at (L H : Nat → Int) (n j : Nat) (h : j < n) : (pairs L H n)[j]'(by rw [pairs_length]; exact h) = (L j, H j) := by simp [pairs]
theorem pairs_at? (L H : Nat → Int) (n j : Nat) (h : j < n) : (pairs L H n)[j]? = some (L j, H j) := by simp [pairs, h]

theorem norm_drop (L H : Nat → Int) (n : Nat) (h : ∀ k, k < n → 0 ≤ L k ∧ L k ≤ H k ∧ H k ≤ 1114111 ∧ (0 < k → H (k - 1) + 1 < L k)) (d k : Nat) (hd : d = n - k) (hk : k ≤ n) (p : Int) (hp : k < n → p ≤ L k) :
    Norm p ((pairs L H n).drop k) := by
  induction d generalizing k p with
  | zero =>
    rw [List.drop_of_length_le (by rw [pairs_length]; omega)]
    trivial
  | succ d ih =>
    have hlt : k < n := by omega
    rw [List.drop_eq_getElem_cons (by rw [pairs_length]; exact hlt), pairs_at L H n k hlt]
    obtain ⟨h1, h2, h3, h4⟩ := h k hlt
    refine ⟨hp hlt, h2, h3, ih (k + 1) (by omega) (by omega) _ ?_⟩
    intro hk1
    have := (h (k + 1) hk1).2.2.2 (by omega)
    simp at this ⊢
    omega

theorem norm_pairs (L H : Nat → Int) (n : Nat) (h : ∀ k, k < n → 0 ≤ L k ∧ L k ≤ H k ∧ H k ≤ 1114111 ∧ (0 < k → H (k - 1) + 1 < L k)) : Norm 0 (pairs L H n) := by
  have := norm_drop L H n h n 0 (by omega) (by omega) 0 (fun hk => (h 0 hk).1)
  simpa using this

/-- The count of the law: gaps. -/
theorem gaps (L H : Nat → Int) (n : Nat) (h : Norm 0 (pairs L H n)) (hn : 0 < n) :
    ((comp 0 (pairs L H n)).length : Int) = (n : Int) + 1 - (if L 0 = 0 then 1 else 0) - (if H (n - 1) = 1114111 then 1 else 0) := by
  obtain ⟨m, rfl⟩ : ∃ m, n = m + 1 := ⟨n - 1, by omega⟩
  have e0 := pairs_at? L H (m + 1) 0 (by omega)
  have el := pairs_at? L H (m + 1) m (by omega)
  have len := pairs_length L H (m + 1)
  generalize pairs L H (m + 1) = rs at *
  cases rs with
  | nil => simp at len
  | cons r t =>
    have lt : t.length = m := by simpa using len
    have e1 : r = (L 0, H 0) := by simpa using e0
    have hl := comp_length0 r t h
    have hend := endN_last 0 (r :: t) (by simp)
    have e2 : ((r :: t)[(r :: t).length - 1]'(by simp)) = (L m, H m) := by
      have := el
      rw [List.getElem?_eq_getElem (by simp; omega)] at this
      simp only [Option.some.injEq] at this
      rw [← this]
      congr 1
    rw [e2] at hend
    simp only [endN] at hend
    rw [hl, hend, e1, lt]
    have h0 : (0 : Int) ≤ L 0 := by have := h.1; rw [e1] at this; exact this
    have hm : H m ≤ 1114111 := by
      have key : ∀ (p : Int) (l : List Rg) (j : Nat) (x : Rg), Norm p l → l[j]? = some x → x.2 ≤ 1114111 := by
        intro p l
        induction l generalizing p with
        | nil => intro j x _ hx; simp at hx
        | cons a l ih =>
          intro j x hn hx
          cases j with
          | zero => simp at hx; subst hx; exact hn.2.2.1
          | succ j => exact ih _ j x hn.2.2.2 (by simpa using hx)
      exact key 0 _ m _ h el
    simp only [Nat.add_sub_cancel]
    split <;> split <;> split <;> split <;> omega

end Go.Proofs.Qxb6613004a.Sets
