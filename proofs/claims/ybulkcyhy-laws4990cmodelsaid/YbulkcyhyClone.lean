/- slices.Clone and slices.Equal at kept steps. -/
import Derived.Test.YbulkcyhyRows
import Derived.Test.YbulkcyhyBuild
import Derived.Lib.SliceRun
import Derived.WalkKit
import Derived.ProofKit
import Derived.OpenShut
import Derived.WalkSpells
import Derived.Deep.QuietTactic
import Derived.BigQuiet
namespace Go.Proofs.Ybulkcyhy.clone
open Go.RowKit
open Go.Proofs.Ybulkcyhy.plain Go.Proofs.Ybulkcyhy.find Go.Proofs.Ybulkcyhy.build
set_option linter.unusedVariables false

/-- The cell at place o of a row of kept steps. -/
def cellV (ks : List Int) (o : Nat) : Value :=
  if o % 3 = 0 then .int .i64 (ks.getD (o / 3) 0 / 64) else if o % 3 = 1 then .int .i64 (ks.getD (o / 3) 0 % 64) else .bool (ks.getD (o / 3) 0 % 3 == 0)

/-- All cells of the row. -/
def cellsV (ks : List Int) : List Value := (List.range (ks.length * 3)).map (cellV ks)

theorem cellsV_length (ks : List Int) : (cellsV ks).length = ks.length * 3 := by simp [cellsV]

theorem cellsV_at {ks : List Int} {o : Nat} (h : o < ks.length * 3) : (cellsV ks)[o]? = some (cellV ks o) := by
  simp [cellsV, h]

theorem cellsV_one (ks : List Int) : ∀ u ∈ cellsV ks, u.oneCell' = true := by
  intro u hu
  simp only [cellsV, List.mem_map] at hu
  obtain ⟨o, _, rfl⟩ := hu
  unfold cellV
  split
  · rfl
  · split <;> rfl

theorem steps_cell {w : World} {g : Nat} {ks : List Int} (h : StepsAt w g ks) {o : Nat} (ho : o < ks.length * 3) : w.cell? ⟨g, o, none⟩ = some (cellV ks o) := by
  obtain ⟨h0, h1, h2⟩ := h (o / 3) (by omega)
  unfold cellV
  by_cases e0 : o % 3 = 0
  · rw [if_pos e0]
    have : o = o / 3 * 3 := by omega
    rw [show (⟨g, o, none⟩ : Addr) = ⟨g, o / 3 * 3, none⟩ by rw [← this], h0]
  · rw [if_neg e0]
    by_cases e1 : o % 3 = 1
    · rw [if_pos e1]
      have : o = o / 3 * 3 + 1 := by omega
      rw [show (⟨g, o, none⟩ : Addr) = ⟨g, o / 3 * 3 + 1, none⟩ by rw [← this], h1]
    · rw [if_neg e1]
      have : o = o / 3 * 3 + 2 := by omega
      rw [show (⟨g, o, none⟩ : Addr) = ⟨g, o / 3 * 3 + 2, none⟩ by rw [← this], h2]

theorem cell_steps {w : World} {g : Nat} {ks : List Int} (h : ∀ o, o < ks.length * 3 → w.cell? ⟨g, o, none⟩ = some (cellV ks o)) : StepsAt w g ks := fun j hj => by
  have d0 : (j * 3) % 3 = 0 := by omega
  have d1 : (j * 3 + 1) % 3 = 1 := by omega
  have d2 : (j * 3 + 2) % 3 = 2 := by omega
  have e0 : j * 3 / 3 = j := by omega
  have e1 : (j * 3 + 1) / 3 = j := by omega
  have e2 : (j * 3 + 2) / 3 = j := by omega
  refine ⟨?_, ?_, ?_⟩
  · rw [h _ (by omega)]; simp [cellV]
  · rw [h _ (by omega)]; unfold cellV; rw [d1, e1]; rfl
  · rw [h _ (by omega)]; unfold cellV; rw [d2, e2]; rfl

set_option maxHeartbeats 1000000 in
theorem clone_any (g cap : Nat) (ks : List Int) (w : World) (hn : ks.length ≤ 1024) (hg : g < w.heap.size) (hc : StepsAt w g ks) :
    Calls Yba.prog 6 #[.slice (some ⟨g, 0, none⟩) ks.length cap] w fun e w' => ∃ g' cap', w.heap.size ≤ g' ∧ g' < w'.heap.size ∧ StepsAt w' g' ks ∧ e = .returned (.slice (some ⟨g', 0, none⟩) ks.length cap') ∧ Below w.heap.size w w' := by
  obtain ⟨i1, hi1, hy0, hy1, hy2⟩ := info_parts info26
  have q23 : ∀ (w : World) (a : Option Addr) (n c n' c' : Nat), (binOp .eql 23 (.slice a n c) (.slice none n' c')).run Yba.prog w = .ok (.bool a.isNone) w := fun w a n c n' c' => Lib.run_eql_slice_nil w _ _ a n c n' c' Yba.underlying23
  have HC : Hid (StepsAt w g ks) := hc
  clear hc
  go_enter Yba.func6, Yba.ntmps6
  go_wp2_with (at_builtin; refine wpList_append_own _ rfl _ _ 23 rfl w.heap.size 26 i1 (.agg #[.int .i64 0, .int .i64 0, .bool false]) 3 24 Yba.underlying23 hi1 hy0 hy1 hy2 rfl (by decide) _ _ _ rfl (World.ownsRow_made w #[] 0 (Nat.le_refl _) (Nat.zero_le _) (by simp)) ⟨g, 0, none⟩ ks.length cap (cellsV ks) rfl ?c1 ?c2 ?c3 ?c4 ?c5 ?c6 ?_)
  case c1 => exact cellsV_length ks
  case c2 =>
    intro j u hj
    have hj' : j < ks.length * 3 := by rw [← cellsV_length ks]; exact (List.getElem?_eq_some_iff.1 hj).1
    rw [cellsV_at hj'] at hj
    rw [Addr.add_lit, Nat.zero_add, World.cell?_alloc_past _ _ _ hg, steps_cell HC.out hj', hj]
  case c3 => exact cellsV_one ks
  case c4 => unfold maxLen; omega
  case c5 => omega
  case c6 => simp
  intro v' w1 hown hgrow hnil
  go_wp2
  go_ret
  have hown' : w1.ownsRow w.heap.size 26 3 v' ks.length (cellsV ks) := by simpa using hown
  rcases hown'.2 with ⟨h1, _⟩ | ⟨g', cap', cur, rfl, hbg, hbk, _⟩
  · exact absurd h1 hnil
  · refine ⟨g', cap', hbg, (hown'.lt g' rfl).2, cell_steps fun o ho => ?_, rfl, ?_⟩
    · rw [hown'.cellAt o ho, cellsV_at ho]
    · exact ((Below.refl _ w).alloc (Nat.le_refl _) _).grown hgrow (by simp) (by intro k hk; simp [Value.ownBlock] at hk; omega)

set_option maxHeartbeats 1000000 in
theorem equal_any (g1 c1 g2 c2 : Nat) (ks : List Int) (w : World) (hn : ks.length ≤ 1024) (h1 : StepsAt w g1 ks) (h2 : StepsAt w g2 ks) :
    Calls Yba.prog 8 #[.slice (some ⟨g1, 0, none⟩) ks.length c1, .slice (some ⟨g2, 0, none⟩) ks.length c2] w fun e w' => e = .returned (.bool true) ∧ Below w.heap.size w w' := by
  have H1 : Hid (StepsAt w g1 ks) := h1
  have H2 : Hid (StepsAt w g2 ks) := h2
  clear h1 h2
  go_enter Yba.func8, Yba.ntmps8
  go_wp2
  go_loopw [13] (fun t wr => ∃ (i n : Nat), i ≤ ks.length ∧ t = .int .i64 i ∧ wr = w.drewN n) (fun t _ => ks.length - (intOf t).toNat)
  case atStart => exact ⟨0, 0, Nat.zero_le _, rfl, rfl⟩
  case round =>
    obtain ⟨i, n, hi, rfl, rfl⟩ := hrel
    by_cases hlt : i < ks.length
    · obtain ⟨a0, a1, a2⟩ := H1.out i hlt
      obtain ⟨b0, b1, b2⟩ := H2.out i hlt
      obtain ⟨k, hk⟩ : ∃ k, k = ks.getD i 0 := ⟨_, rfl⟩
      rw [← hk] at a0 a1 a2 b0 b1 b2
      clear hk
      have hl3 : (i : Int) < (ks.length : Int) := by omega
      go_wp2
      go_quiet (fail)
      go_wp2
      go_roundw
      case rel => exact ⟨i + 1, _, by omega, by go_num, rfl⟩
      case measure => simp [intOf]; omega
    · go_wp2
      go_ret
      exact ⟨rfl, bel_drewN (Below.refl _ _)⟩
end Go.Proofs.Ybulkcyhy.clone
