/-
  THE WALK of LayerOf.
-/
import Derived.Test.Qxb6613783aRows
import Derived.WalkKit
import Derived.WalkSpells
import Derived.WalkLawsBesides
import Derived.RangeFuncBox
namespace Go.Proofs.Qxb6613783a
open Go.RowKit

/-- In block L lies a layer named s whose Features hands out the one run v. -/
def LayerAt (w : World) (L : Nat) (s : ByteArray) (v : Value) : Prop :=
  w.cell? ⟨L, 0, none⟩ = some (.string s) ∧ L < w.heap.size ∧ ∃ B, B < w.heap.size ∧ w.cell? ⟨L, 2, none⟩ = some (.func (.func 27) #[] #[.pointer (some ⟨B, 0, none⟩)]) ∧ w.cell? ⟨B, 0, none⟩ = some v

theorem LayerAt.below {w w' : World} {L : Nat} {s : ByteArray} {v : Value} (h : LayerAt w L s v) (hb : Below w.heap.size w w') : LayerAt w' L s v := by
  obtain ⟨h1, h2, B, hB, h3, h4⟩ := h
  exact ⟨(hb.cell (p := ⟨L, 0, none⟩) h2).trans h1, Nat.lt_of_lt_of_le h2 hb.size, B, Nat.lt_of_lt_of_le hB hb.size, (hb.cell (p := ⟨L, 2, none⟩) h2).trans h3, (hb.cell (p := ⟨B, 0, none⟩) hB).trans h4⟩

theorem LayerAt.new (w : World) (o1 : Obj) (s : ByteArray) (v x : Value) : LayerAt (((w.alloc o1).alloc (.cells #[v] 51)).alloc (.cells #[.string s, x, .func (.func 27) #[] #[.pointer (some ⟨w.heap.size + 1, 0, none⟩)]] 58)) (w.heap.size + 1 + 1) s v := by
  have h3 : (((w.alloc o1).alloc (.cells #[v] 51)).alloc (.cells #[.string s, x, .func (.func 27) #[] #[.pointer (some ⟨w.heap.size + 1, 0, none⟩)]] 58)).heap[w.heap.size + 1 + 1]? = some (.cells #[.string s, x, .func (.func 27) #[] #[.pointer (some ⟨w.heap.size + 1, 0, none⟩)]] 58) := by
    have := World.alloc_heap_new ((w.alloc o1).alloc (.cells #[v] 51)) (.cells #[.string s, x, .func (.func 27) #[] #[.pointer (some ⟨w.heap.size + 1, 0, none⟩)]] 58)
    rwa [World.size_alloc, World.size_alloc] at this
  have h2 : (((w.alloc o1).alloc (.cells #[v] 51)).alloc (.cells #[.string s, x, .func (.func 27) #[] #[.pointer (some ⟨w.heap.size + 1, 0, none⟩)]] 58)).heap[w.heap.size + 1]? = some (.cells #[v] 51) := by
    have := World.alloc_heap_new (w.alloc o1) (.cells #[v] 51)
    rw [World.size_alloc] at this
    exact (Below.heap_alloc _ _ _ (by simp)).trans this
  refine ⟨?_, by simp, w.heap.size + 1, by simp, ?_, ?_⟩
  · simp only [World.cell?, h3]; rfl
  · simp only [World.cell?, h3]; rfl
  · simp only [World.cell?, h2]; rfl

set_option maxHeartbeats 400000 in
theorem layer_any (s : ByteArray) (a : Option Addr) (n c : Nat) (w : World) :
    Calls Try.prog 21 #[.agg #[.string s, .slice none 0 0], .slice a n c] w fun e w' => ∃ L, e = .returned (.pointer (some ⟨L, 0, none⟩)) ∧ LayerAt w' L s (.slice a n c) ∧ Below w.heap.size w w' := by
  go_enter Try.func21, Try.ntmps21
  go_wp2
  go_ret
  exact ⟨w.heap.size + 1 + 1, rfl, LayerAt.new w _ s _ _, (((Below.refl _ w).alloc (Nat.le_refl _) _).alloc (by simp) _).alloc (by simp; omega) _⟩
end Go.Proofs.Qxb6613783a
