/-
  THE WALK of zzRunMatches.
-/
import Derived.Test.Qxb6613783aNamed
import Derived.Deep.QuietTactic
import Derived.BigQuiet
namespace Go.Proofs.Qxb6613783a
open Go.RowKit

/-- A slice of named features. -/
def IsRun (w : World) (a : Option Addr) (n : Nat) (NS : Nat → ByteArray) (N : Nat → Nat) : Prop :=
  0 < n → ∃ B o, a = some ⟨B, o, none⟩ ∧ B < w.heap.size ∧ RunAt w B o n NS N
/-- A slice of strings, if it has an element. -/
def Names (w : World) (a : Option Addr) (n : Nat) (NS : Nat → ByteArray) : Prop :=
  0 < n → ∃ b o, a = some ⟨b, o, none⟩ ∧ b < w.heap.size ∧ Cells w b o n NS
/-- A slice of slices, of which the lengths are told. -/
def Lens (w : World) (a : Option Addr) (n : Nat) (N : Nat → Nat) : Prop :=
  0 < n → ∃ b o, a = some ⟨b, o, none⟩ ∧ b < w.heap.size ∧ ∀ i, i < n → ∃ a' c', w.cell? ⟨b, o + i, none⟩ = some (.slice a' (N i) c')

theorem IsRun.below {w w' : World} {a : Option Addr} {n : Nat} {NS : Nat → ByteArray} {N : Nat → Nat} (h : IsRun w a n NS N) (hb : Below w.heap.size w w') : IsRun w' a n NS N := fun hp => by
  obtain ⟨B, o, e, hB, hr⟩ := h hp
  exact ⟨B, o, e, Nat.lt_of_lt_of_le hB hb.size, hr.below hB hb⟩
theorem Names.below {w w' : World} {a : Option Addr} {n : Nat} {NS : Nat → ByteArray} (h : Names w a n NS) (hb : Below w.heap.size w w') : Names w' a n NS := fun hp => by
  obtain ⟨B, o, e, hB, hr⟩ := h hp
  exact ⟨B, o, e, Nat.lt_of_lt_of_le hB hb.size, fun k hk => (hb.cell (p := ⟨B, o + k, none⟩) hB).trans (hr k hk)⟩
theorem Lens.below {w w' : World} {a : Option Addr} {n : Nat} {N : Nat → Nat} (h : Lens w a n N) (hb : Below w.heap.size w w') : Lens w' a n N := fun hp => by
  obtain ⟨B, o, e, hB, hr⟩ := h hp
  refine ⟨B, o, e, Nat.lt_of_lt_of_le hB hb.size, fun k hk => ?_⟩
  obtain ⟨a', c', h⟩ := hr k hk
  exact ⟨a', c', (hb.cell (p := ⟨B, o + k, none⟩) hB).trans h⟩

set_option maxHeartbeats 1000000 in
theorem match_any (ar an av : Option Addr) (n cr cn cv : Nat) (NS : Nat → ByteArray) (N : Nat → Nat) (hn : n ≤ 1048576) (hN : ∀ i, i < n → N i ≤ 1048576) (w : World)
    (h1 : IsRun w ar n NS N) (h2 : Names w an n NS) (h3 : Lens w av n N) :
    Calls Try.prog 23 #[.slice ar n cr, .slice an n cn, .slice av n cv] w fun e w' => e = .returned (.bool true) ∧ Below w.heap.size w w' := by
  have H1 : Hid (IsRun w ar n NS N) := h1
  have H2 : Hid (Names w an n NS) := h2
  have H3 : Hid (Lens w av n N) := h3
  have HN : Hid (∀ i, i < n → N i ≤ 1048576) := hN
  clear h1 h2 h3 hN
  have tn : ((n : Int) != (n : Int)) = false := by simp
  go_enter Try.func23, Try.ntmps23
  go_wp2
  go_loopw [7] (fun v wr => ∃ (k : Nat), k ≤ n ∧ v = .int .i64 k ∧ Hid (Below w.heap.size w wr)) (fun v _ => n - (intOf v).toNat)
  case atStart => exact ⟨0, Nat.zero_le _, rfl, Below.refl _ _⟩
  case round =>
    obtain ⟨k, hk, rfl, HB⟩ := hrel
    by_cases hlt : k < n
    · obtain ⟨B, o, rfl, hB, hr⟩ := H1.out.below HB.out (by omega)
      obtain ⟨b, o1, rfl, hb, hc⟩ := H2.out.below HB.out (by omega)
      obtain ⟨b2, o2, rfl, hb2, hl⟩ := H3.out.below HB.out (by omega)
      obtain ⟨g1, hF⟩ := hr k hlt
      have g2 := hc k hlt
      obtain ⟨a', c', g3⟩ := hl k hlt
      have HF : Hid (Feat wr B (o + k * 2 + 1) (N k)) := hF.feat
      have hNk := HN.out k hlt
      have hsz := HB.out.size
      obtain ⟨q, hq⟩ : ∃ q, N k = q := ⟨_, rfl⟩
      rw [hq] at HF hNk g3
      clear hr hc hl hF hq
      go_wp2_with fail
      go_quiet (fail)
      go_wp2_with fail
      have HFq : Hid (Feat (wr.drewN nq) B (o + k * 2 + 1) q) := HF.out
      refine (tags_any B (o + k * 2 + 1) q hNk _ HFq.out).mono ?_
      rintro e w6 ⟨rfl, hown6, hb6⟩
      have HB6 : Hid (Below w.heap.size w w6) := (below_drewN HB.out nq).trans (hb6.mono (by simp; exact hsz))
      have HC6 : Hid (∀ j, j < q → w6.cell? ⟨wr.heap.size, j, none⟩ = some (.int .u8 8)) := fun j hj => by
        have := hown6.cellAt j (by omega)
        rw [List.getElem?_replicate, if_pos hj] at this
        exact this
      have g6 : w6.cell? ⟨b2, o2 + k, none⟩ = some (.slice a' q c') := (hb6.cell (p := ⟨b2, o2 + k, none⟩) hb2).trans g3
      have tq : ((q : Int) != (q : Int)) = false := by simp
      clear hown6 hb6 HB HF HFq g1 g2 g3
      go_wp2_with fail
      go_loop [9] (fun v => ∃ (j : Nat), j ≤ q ∧ v = .int .i64 j) (fun v => q - (intOf v).toNat)
      case atStart => exact ⟨0, Nat.zero_le _, rfl⟩
      case round =>
        obtain ⟨j, hj, rfl⟩ := hrel
        by_cases hlt2 : j < q
        · have g8 := HC6.out j hlt2
          go_wp2
          go_round
          case rel => exact ⟨j + 1, by omega, by go_num⟩
          case measure => simp [intOf]; omega
        · go_wp2
          go_roundw
          case rel => exact ⟨k + 1, by omega, by go_num, HB6⟩
          case measure => simp [intOf]; omega
    · go_wp2
      go_ret
      exact ⟨rfl, HB.out⟩
end Go.Proofs.Qxb6613783a
