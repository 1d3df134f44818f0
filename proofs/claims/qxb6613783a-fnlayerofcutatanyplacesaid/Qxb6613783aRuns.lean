/-
  THE WALK of ZZrunsOf: a range over the layer's Features.
-/
import Derived.RangeFuncNested
import Derived.RangeFuncBound
import Derived.RangeFuncCalls
import Derived.RangeFuncLeaves
import Derived.RangeFuncBox
import Derived.Shelf.Abstract
import Derived.Shelf.RegionOpen
import Derived.WalkKit
import Derived.OwnWalkIn
import Derived.TacticsInMore
import Derived.LoopNIn
import Derived.LoopIn
import Derived.BigRegionIn
import Derived.Maps.AppendAt
import Derived.Test.Qxb6613783aLayer
namespace Go.Proofs.Qxb6613783a
open Go.RowKit Go.Shelf

attribute [local go_sem] Oper.semAt_some

abbrev oneRun (v : Value) (_ : Unit) : Array Value := #[v, .nilIface]

set_option maxHeartbeats 1000000 in
/-- The closure of LayerOf hands out its one run. -/
theorem run_stops (F : Fence) (n : Nat) (h27 : F.fn 27) (hro : F.round = none) (hn : 1 ≤ n) (B n₀ : Nat) (a : Option Addr) (m c : Nat) (w : World) (hB : B < w.heap.size) (hc : w.cell? ⟨B, 0, none⟩ = some (.slice a m c)) :
    SeqStopsK F n Try.prog 27 #[.pointer (some ⟨B, 0, none⟩)] (oneRun (.slice a m c)) (Below n₀) (fun ys => ys = [()]) (fun pre => pre = [()]) 1 w := fun l J Jx W hW _ _ hY h0 => by
  have hc' : W.cell? ⟨B, 0, none⟩ = some (.slice a m c) := (hW.cell (p := ⟨B, 0, none⟩) hB).trans hc
  refine callsIn_of_wp Try.func27 rfl h27 ?_ hro
  simp only [Try.ntmps27, List.size_toArray, List.length_cons, List.length_nil, Nat.reduceAdd, Nat.reduceSub, Array.replicate_succ, Array.replicate_zero, List.push_toArray, List.append_toArray, List.nil_append, List.cons_append]
  obtain ⟨f1, t1, a1, b1, hy1, hR1⟩ := hY [] () W h0 (by simp)
  dsimp only [oneRun] at hy1
  gi_wp2
  refine hR1.mono ?_
  rintro e W1 (⟨rfl, hJ1, _⟩ | ⟨rfl, hx1⟩)
  · gi_wp2
    go_end0
    exact ⟨⟨_, rfl⟩, .inl ⟨_, rfl, hJ1⟩⟩
  · gi_wp2
    go_end0
    exact ⟨⟨_, rfl⟩, .inr ⟨_, rfl, hx1⟩⟩

theorem Try.info51 : (Try.prog.info? 51).map (fun i => (i.zero, i.size, i.bytes)) = some (some (.slice none 0 0), 1, 24) := by kernel_rfl

set_option maxRecDepth 100000 in
set_option maxHeartbeats 2000000 in
theorem runs_in (F : Fence) (n : Nat) (h22 : F.fn 22) (h27 : F.fn 27) (hro : F.round = none) (hn : 3 ≤ n) (L : Nat) (s : ByteArray) (a : Option Addr) (m c : Nat) (w : World) (hL : LayerAt w L s (.slice a m c)) :
    CallsIn F n Try.prog 22 #[.pointer (some ⟨L, 0, none⟩)] w fun e W' => ∃ v, e = .returned (.tuple #[v, .int .i64 0, .bool true]) ∧ W'.ownsRow w.heap.size 51 1 v 1 [.slice a m c] ∧ Below w.heap.size w W' := by
  have h1 : 1 ≤ n := by omega
  obtain ⟨i0, hi, hz0, hz1, hz2⟩ := info_parts Try.info51
  obtain ⟨hL0, hL1, B, hB, hL2, hL3⟩ := hL
  refine callsIn_of_wp_marks Try.func22 rfl h22 ?_ hro
  simp only [Try.ntmps22, List.size_toArray, List.length_cons, List.length_nil, Nat.reduceAdd, Nat.reduceSub, Array.replicate_succ, Array.replicate_zero, List.push_toArray, List.append_toArray, List.nil_append, List.cons_append]
  have hnil : ∀ W : World, Sem.run Try.prog (binOp BinOp.eql 56 (.func (.func 27) #[] #[.pointer (some ⟨B, 0, none⟩)]) .nilFunc) W = .ok (.bool false) W := fun _ => by kernel_rfl
  gi_wp2
  have bO := Boxed.new w 59 (.slice none 0 0)
  have bN := Boxed.new (w.alloc (.cells #[.slice none 0 0] 59)) 3 (.int .i64 0)
  rw [World.size_alloc] at bN
  have hB0 : Below w.heap.size w ((w.alloc (.cells #[.slice none 0 0] 59)).alloc (.cells #[.int .i64 0] 3)) := ((Below.refl _ w).alloc (Nat.le_refl _) _).alloc (by simp) _
  refine wpIn_rangeFunc_ownG hro h1 (gf := 27) (lb := #[.pointer (some ⟨B, 0, none⟩)]) rfl h27 (enters_of Try.func27 (by kernel_rfl) rfl)
    (run_stops F (n - 1) h27 hro (by omega) B w.heap.size a m c _ (by simp; omega) ((hB0.cell (p := ⟨B, 0, none⟩) hB).trans hL3)) belowK_t (belowK_b (by simp; omega)) (Below.refl _ _) (fun _ => rfl)
    (fun pre W => (∃ v, Boxed W w.heap.size 59 v ∧ W.ownsRow w.heap.size 51 1 v pre.length (pre.map fun _ => .slice a m c) ∧ (v = .slice none 0 0 ↔ pre = [])) ∧ Boxed W (w.heap.size + 1) 3 (.int .i64 0) ∧ Below w.heap.size w W)
    (fun _ _ _ => False)
    (OwnFrom.and (Own.from (holdsRow_own w.heap.size w.heap.size 59 51 1 (fun pre => pre.length) (fun pre : List Unit => pre.map fun _ => .slice a m c) (fun pre v => v = .slice none 0 0 ↔ pre = [])) _) (OwnFrom.and (Own.from (boxed_own _ _ _) _) (ownFrom_below (Nat.le_refl _) (by simp; omega))))
    (fun _ _ _ _ _ hs _ _ => hs)
    ⟨⟨_, bO.alloc _, World.ownsRow_nil _ _ _ _, by simp⟩, bN, hB0⟩
    (fun _ => { tmps := #[.pointer (some ⟨L, 0, none⟩), undef, .pointer (some ⟨w.heap.size, 0, none⟩), .pointer (some ⟨w.heap.size + 1, 0, none⟩), .bool false, .slice a m c, .nilIface, .pointer (some ⟨L, 0, none⟩), .bool false, .bool false, .pointer (some ⟨L, 0, none⟩), .pointer (some ⟨L, 0, none⟩), .pointer (some ⟨L, 2, none⟩), .func (.func 27) #[] #[.pointer (some ⟨B, 0, none⟩)], .bool false, .bool false, .pointer (some ⟨L, 0, none⟩), .pointer (some ⟨L, 0, none⟩), .pointer (some ⟨L, 2, none⟩), .func (.func 27) #[] #[.pointer (some ⟨B, 0, none⟩)], .slice a m c, .nilIface, undef, undef, undef, undef, undef, undef, undef, undef, undef, undef], defers := [] }) ?assign ?body ?done ?stop
  case assign =>
    intro l x W K hK
    gi_wp2
    exact hK
  case body =>
    rintro l pre x W ⟨⟨v, hv, hrow, hvn⟩, hE, hBw⟩ hlt
    have hc := hv.cell
    gi_wp2_with (gi_at_builtin; refine wpListIn_append_own _ rfl _ _ 59 rfl w.heap.size 51 i0 (.slice none 0 0) 1 24 Try.underlying59 hi hz0 hz1 hz2 rfl (by decide) _ _ _ rfl (hrow.alloc _) ⟨W.heap.size, 0, none⟩ 1 1 [.slice a m c] rfl rfl (cell_one_new _ _ _) (by simp [Value.oneCell']) (by simp [maxLen]; omega) (by omega) (by have := hBw.size; simp; omega) ?_; intro v' w1 hown' hgrow _; obtain ⟨g', cap', rfl⟩ := ownsRow_succ hown'; obtain ⟨hv1, hv2, hr2, hk2, hb2⟩ := hv.appended (by decide) hrow hBw.size (Nat.le_refl _) hown' hgrow; have hc1 := hv1.cell; have hf1 := hv1.frozen; have hE1 : Boxed w1 (w.heap.size + 1) 3 (.int .i64 0) := (hE.alloc _).kept hgrow (hE.not_row (by decide) hrow))
    exact ⟨hk2.from _, hb2, ⟨_, hv2, by simpa using hr2, by simp⟩, hE1.other (by omega) _, hBw.trans hb2⟩
  case done =>
    rintro D ys W hD rfl ⟨⟨v, hv, hrow, hvn⟩, hE, hBw⟩ hK
    have hc := hv.cell
    have hf := hv.frozen
    have hec := hE.cell
    have hef := hE.frozen
    obtain ⟨g', cap', rfl⟩ := ownsRow_succ hrow
    dsimp only [List.length] at hc hv hrow
    gi_wp2
    have hvs := ((hv.set (.slice (some ⟨g', 0, none⟩) 1 cap')).other (B' := w.heap.size + 1) (by omega) (.int .i64 0))
    have hes := ((hE.other (B' := w.heap.size) (by omega) (.slice (some ⟨g', 0, none⟩) 1 cap')).set (.int .i64 0))
    have hks := ((KeepsOthers.setCell W ⟨w.heap.size, 0, none⟩ (.slice (some ⟨g', 0, none⟩) 1 cap')).trans ((KeepsOthers.setCell _ ⟨w.heap.size + 1, 0, none⟩ (.int .i64 0)).trans (KeepsOthers.drew _))).same D _ hK rfl
    have hrs := (hrow.kept (grownBy_setCell' W w.heap.size (.slice (some ⟨g', 0, none⟩) 1 cap')) (.inr (hv.not_row (by decide) hrow).symm))
    have hrt := (hrs.kept (grownBy_setCell' _ (w.heap.size + 1) (.int .i64 0)) (.inr ((hE.other (B' := w.heap.size) (by omega) _).not_row (by decide) hrs).symm))
    have hbs := ((hBw.setCell (p := ⟨w.heap.size, 0, none⟩) (Nat.le_refl _) (.slice (some ⟨g', 0, none⟩) 1 cap')).setCell (p := ⟨w.heap.size + 1, 0, none⟩) (by simp) (.int .i64 0)).drew
    generalize hWd : ((W.setCell ⟨w.heap.size, 0, none⟩ (.slice (some ⟨g', 0, none⟩) 1 cap')).setCell ⟨w.heap.size + 1, 0, none⟩ (.int .i64 0)).drew = Wd at hks hbs
    have hvd : Boxed Wd w.heap.size 59 (.slice (some ⟨g', 0, none⟩) 1 cap') := by rw [← hWd]; exact hvs
    have hed : Boxed Wd (w.heap.size + 1) 3 (.int .i64 0) := by rw [← hWd]; exact hes
    have hrd : Wd.ownsRow w.heap.size 51 1 (.slice (some ⟨g', 0, none⟩) 1 cap') 1 [.slice a m c] := by rw [← hWd]; exact hrt
    have hc5 := cell_kept hvd.cell (grownBy_putObj' _ D (.deferred none)) (fun r e => by cases e; exact ⟨_, hks, rfl⟩)
    have hc6 := cell_kept hed.cell (grownBy_putObj' _ D (.deferred none)) (fun r e => by cases e; exact ⟨_, hks, rfl⟩)
    clear hvs hes hrs hrt
    gi_region
    all_goals gi_wp2
    all_goals refine ⟨by simp, .inl ⟨_, _, rfl, run_takeDeferred hks, ?_⟩⟩
    all_goals refine ⟨_, ?_, _, rfl, ownsRow_putObj hrd _ hks rfl, hbs.trans (belowK_b (w := w) (Nat.le_refl _) Wd D _ _ (by simp at hD; omega) hks rfl rfl)⟩
    all_goals simp [results, Try.f22, go_sem, hc5, hc6]
  case stop =>
    rintro D c pre W _ _ h _
    exact h.elim

/-- ZZrunsOf of a layer: its one run, no error, ok. -/
theorem runs_any (L : Nat) (s : ByteArray) (a : Option Addr) (m c : Nat) (w : World) (hL : LayerAt w L s (.slice a m c)) :
    Calls Try.prog 22 #[.pointer (some ⟨L, 0, none⟩)] w fun e w' => ∃ g cap, e = .returned (.tuple #[.slice (some ⟨g, 0, none⟩) 1 cap, .int .i64 0, .bool true]) ∧ w'.cell? ⟨g, 0, none⟩ = some (.slice a m c) ∧ g < w'.heap.size ∧ Below w.heap.size w w' := by
  refine (callsIn_wide.1 (runs_in Fence.wide 3 trivial trivial rfl (Nat.le_refl _) L s a m c w hL)).mono ?_
  rintro e w' ⟨v, rfl, hrow, hb⟩
  obtain ⟨g, cap, rfl⟩ := ownsRow_succ (k := 0) hrow
  exact ⟨g, cap, rfl, by simpa using hrow.cellAt 0 (by simp), (hrow.lt _ rfl).2, hb⟩
end Go.Proofs.Qxb6613783a
