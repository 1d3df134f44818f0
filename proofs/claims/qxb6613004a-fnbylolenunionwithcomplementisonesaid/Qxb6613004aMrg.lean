/-
  PLAIN: merging ranges that overlap or touch; the union of a set and its complement; of a set and itself. No Go in sight.
-/
import Derived.Test.Qxb6613004aSets
namespace Go.Proofs.Qxb6613004a.Sets

/-- merge's fold: what is done, the range in hand, what is to come. -/
def mf (done : List Rg) (cur : Rg) : List Rg → List Rg
  | [] => done ++ [cur]
  | r :: t => if r.1 ≤ cur.2 + 1 then mf done (cur.1, if cur.2 < r.2 then r.2 else cur.2) t else mf (done ++ [cur]) r t

/-- What merge makes. -/
def mrg : List Rg → List Rg
  | [] => []
  | r :: t => mf [] r t

/-- Two sets side by side, in order of where the ranges start. -/
def mg (s t : List Rg) : List Rg := List.merge s t (fun a b => decide (a.1 ≤ b.1))

theorem mg_nil_left (t : List Rg) : mg [] t = t := by simp [mg]
theorem mg_nil_right (s : List Rg) : mg s [] = s := by simp [mg]
theorem mg_left (a b : Rg) (s t : List Rg) (h : a.1 ≤ b.1) : mg (a :: s) (b :: t) = a :: mg s (b :: t) := by
  simp [mg, h]
theorem mg_right (a b : Rg) (s t : List Rg) (h : ¬ a.1 ≤ b.1) : mg (a :: s) (b :: t) = b :: mg (a :: s) t := by
  simp [mg, h]
theorem mg_length (s t : List Rg) : (mg s t).length = s.length + t.length := by simp [mg, List.length_merge]

theorem Norm.weaken {p q : Int} {rs : List Rg} (h : Norm p rs) (hq : q ≤ p) : Norm q rs := by
  cases rs with
  | nil => trivial
  | cons r t => exact ⟨by have := h.1; omega, h.2⟩

/-- Every range of the complement starts at nx or later. -/
theorem comp_starts (nx : Int) (rs : List Rg) (h : Norm nx rs) : ∀ c t, comp nx rs = c :: t → nx ≤ c.1 := by
  induction rs generalizing nx with
  | nil =>
    intro c t e
    simp only [comp] at e
    split at e
    · simp at e; obtain ⟨rfl, _⟩ := e; exact Int.le_refl _
    · simp at e
  | cons r rs ih =>
    intro c t e
    simp only [comp] at e
    split at e
    · simp at e; obtain ⟨rfl, _⟩ := e; exact Int.le_refl _
    · have := ih (r.2 + 1) (h.2.2.2.weaken (by omega)) c t (by simpa using e)
      have h1 := h.1; have h2 := h.2.1
      omega

/-- A range that starts first goes first. -/
theorem mg_first (r : Rg) (t C : List Rg) (h : ∀ c l, C = c :: l → r.1 ≤ c.1) : mg (r :: t) C = r :: mg t C := by
  cases C with
  | nil => rw [mg_nil_right, mg_nil_right]
  | cons c l => exact mg_left r c t l (h c l rfl)

theorem mf_cover (nx : Int) (s : List Rg) (h : Norm nx s) (hn : nx ≤ 1114112) : mf [] (0, nx - 1) (mg s (comp nx s)) = [(0, 1114111)] := by
  induction s generalizing nx with
  | nil =>
    rw [mg_nil_left]
    simp only [comp]
    by_cases e : nx ≤ 1114111
    · rw [if_pos e]
      simp only [mf]
      rw [if_pos (by omega), if_pos (by omega)]
      rfl
    · rw [if_neg e]
      simp only [mf]
      rw [show nx - 1 = 1114111 from by omega]
      rfl
  | cons r t ih =>
    obtain ⟨h1, h2, h3, h4⟩ := h
    have IH := ih (r.2 + 1) (h4.weaken (by omega)) (by omega)
    rw [show r.2 + 1 - 1 = r.2 from by omega] at IH
    have hC : ∀ c l, comp (r.2 + 1) t = c :: l → r.1 ≤ c.1 := fun c l e => by
      have := comp_starts (r.2 + 1) t (h4.weaken (by omega)) c l e
      omega
    simp only [comp]
    by_cases e : nx < r.1
    · rw [if_pos e, List.cons_append, List.nil_append, mg_right r _ t _ (by simp; omega), mg_first r t _ hC]
      simp only [mf]
      rw [if_pos (by omega), if_pos (by omega), if_pos (by omega)]
      exact IH
    · rw [if_neg e, List.nil_append, mg_first r t _ hC]
      simp only [mf]
      rw [if_pos (by omega), if_pos (by omega)]
      exact IH

/-- THE FIRST HALF OF THE LAW: a set and its complement make one range. -/
theorem mrg_cover (s : List Rg) (h : Norm 0 s) : mrg (mg s (comp 0 s)) = [(0, 1114111)] := by
  have key := mf_cover 0 s h (by omega)
  have hhead : ∀ x l, mg s (comp 0 s) = x :: l → x.1 = 0 ∧ 0 ≤ x.2 := by
    intro x l e
    cases s with
    | nil => rw [mg_nil_left] at e; simp [comp] at e; obtain ⟨rfl, _⟩ := e; exact ⟨rfl, by simp⟩
    | cons r t =>
      obtain ⟨h1, h2, h3, h4⟩ := h
      have hC : ∀ c l, comp (r.2 + 1) t = c :: l → r.1 ≤ c.1 := fun c l e => by
        have := comp_starts (r.2 + 1) t (h4.weaken (by omega)) c l e
        omega
      simp only [comp] at e
      by_cases k : 0 < r.1
      · rw [if_pos k, List.cons_append, List.nil_append, mg_right r _ t _ (by simp; omega)] at e
        simp at e; obtain ⟨rfl, _⟩ := e; exact ⟨rfl, by simp; omega⟩
      · rw [if_neg k, List.nil_append, mg_first r t _ hC] at e
        simp at e; obtain ⟨rfl, _⟩ := e; exact ⟨by omega, by omega⟩
  cases e : mg s (comp 0 s) with
  | nil => rw [e] at key; simp [mf] at key
  | cons x l =>
    obtain ⟨hx1, hx2⟩ := hhead x l e
    rw [e] at key
    simp only [mf] at key
    rw [if_pos (by omega), if_pos (by omega)] at key
    simp only [mrg]
    rw [show x = (0, x.2) from by rw [← hx1]]
    exact key

theorem mg_self (r : Rg) (t : List Rg) (h : Norm 0 (r :: t)) : mg (r :: t) (r :: t) = r :: r :: mg t t := by
  rw [mg_left r r t t (Int.le_refl _)]
  congr 1
  cases t with
  | nil => rw [mg_nil_left, mg_nil_left]
  | cons a l =>
    obtain ⟨h1, h2, h3, h4⟩ := h
    rw [mg_right a r l (a :: l) (by have := h4.1; omega)]

theorem mf_twice (done : List Rg) (cur : Rg) (t : List Rg) (h : Norm (cur.2 + 2) t) (h0 : 0 ≤ cur.2) : mf done cur (mg t t) = done ++ cur :: t := by
  induction t generalizing done cur with
  | nil => rw [mg_nil_left]; simp [mf]
  | cons r t ih =>
    rw [mg_self r t (h.weaken (by omega))]
    obtain ⟨h1, h2, h3, h4⟩ := h
    simp only [mf]
    rw [if_neg (by omega), if_pos (by omega), if_neg (by omega), ih (done ++ [cur]) (r.1, r.2) h4 (by simp; omega)]
    simp

/-- THE SECOND HALF: a set and itself make the set. -/
theorem mrg_self (s : List Rg) (h : Norm 0 s) : mrg (mg s s) = s := by
  cases s with
  | nil => rw [mg_nil_left]; rfl
  | cons r t =>
    rw [mg_self r t h]
    obtain ⟨h1, h2, h3, h4⟩ := h
    simp only [mrg, mf]
    rw [if_pos (by omega), if_neg (by omega)]
    have := mf_twice [] (r.1, r.2) t h4 (by simp; omega)
    simpa using this

end Go.Proofs.Qxb6613004a.Sets
