/-
  WHAT THE ROWS' FRAMES SHARE: the array argument of four words, opened.
-/
import Derived.Test.Qxb6613004aRun
import Derived.ProofKit
import Derived.OpenShut
import Derived.ShutString
import Derived.ChangeOld
import Derived.Below
import Derived.Laws.IdiomArrays
namespace Go.Proofs.Qxb6613004a
open Go.ChangeShapes Go.WideShapes Go.ChangeAt Go.RowKit

theorem own : ownKnob Try.prog.godebug = none := by kernel_rfl
theorem laidOut : laidOutB Try.prog = true := by kernel_rfl
theorem cells22 : Try.prog.cellsOf 22 = 1 := by kernel_rfl
theorem cells23 : Try.prog.cellsOf 23 = 4 := by kernel_rfl

theorem four_of {α : Type} {cs : Array α} (h : cs.size = 4) : ∃ c0 c1 c2 c3, cs = #[c0, c1, c2, c3] := by
  obtain ⟨l⟩ := cs
  match l, h with
  | [c0, c1, c2, c3], _ => exact ⟨c0, c1, c2, c3, rfl⟩

theorem word_of {q : Int} (h : (Lit.int .u64 q).wf = true) : Word q := by
  have hmin : IntKind.u64.min = 0 := rfl
  have hmax : IntKind.u64.max = 18446744073709551615 := rfl
  simp only [Lit.wf, Bool.and_eq_true, decide_eq_true_eq] at h
  exact ⟨by omega, by omega⟩

theorem open_words {H : Type} {enc : TypeId × Value → H} {W : World} {base : Nat} {v : Value} {d : DataW H} {p : List MemPlace}
    (hv : Value.okWide Try.prog W .any base 23 v) (h : DataW.Trod enc Try.prog W 0 (fun _ => true) true 23 v d p) :
    ∃ q0 q1 q2 q3, v = .agg #[.int .u64 q0, .int .u64 q1, .int .u64 q2, .int .u64 q3] ∧ Word q0 ∧ Word q1 ∧ Word q2 ∧ Word q3 := by
  simp only [Value.okWide, Try.underlying23] at hv
  obtain ⟨cs, rfl, hsz, _⟩ := hv
  rw [cells23] at hsz
  obtain ⟨c0, c1, c2, c3, rfl⟩ := four_of hsz
  obtain ⟨fuel, hf⟩ := h
  obtain ⟨y0, y1, y2, y3, n, _, g0, g1, g2, g3⟩ := trod_array4 Try.underlying23 cells22 (by simpa [Value.cells] using hf)
  obtain ⟨q0, e0, _, w0⟩ := DataW.trod_int Try.underlying22 g0
  obtain ⟨q1, e1, _, w1⟩ := DataW.trod_int Try.underlying22 g1
  obtain ⟨q2, e2, _, w2⟩ := DataW.trod_int Try.underlying22 g2
  obtain ⟨q3, e3, _, w3⟩ := DataW.trod_int Try.underlying22 g3
  simp at e0 e1 e2 e3
  subst e0 e1 e2 e3
  exact ⟨q0, q1, q2, q3, rfl, word_of w0, word_of w1, word_of w2, word_of w3⟩

end Go.Proofs.Qxb6613004a
