/- compareSteps, slices.BinarySearchFunc at kept steps, find. -/
import Derived.Test.YbulkcyhyRows
import Derived.Test.YbulkcyhyPlain
import Derived.WalkKit
import Derived.ProofKit
import Derived.OpenShut
import Derived.WalkSpells
import Derived.Deep.LoopGhost
import Derived.Deep.RegionHeld3
import Derived.Deep.QuietTactic
import Derived.BigQuiet
namespace Go.Proofs.Ybulkcyhy.find
open Go.RowKit
open Go.Proofs.Ybulkcyhy.plain
set_option linter.unusedVariables false

/-- A kept step as a value. -/
def stepV (p a : Int) (b : Bool) : Value := .agg #[.int .i64 p, .int .i64 a, .bool b]

theorem ret_int {a b : Int} (h : a = b) : Ending.returned (.int .i64 a) = .returned (.int .i64 b) := by rw [h]

theorem compare_any (k p a : Int) (b c : Bool) (w : World) (hk : 0 ≤ k ∧ k < 4096) (hp : -100 ≤ p ∧ p ≤ 100) (ha : -100 ≤ a ∧ a ≤ 100) :
    Calls Yba.prog 12 #[stepV (k / 64) (k % 64) b, stepV p a c] w fun e w' => e = .returned (.int .i64 (cmpv k p a)) ∧
      w' = (w.alloc (.cells #[.int .i64 (k / 64), .int .i64 (k % 64), .bool b] 26)).alloc (.cells #[.int .i64 p, .int .i64 a, .bool c] 26) := by
  unfold stepV
  by_cases h : k / 64 = p
  · have h1 : (k / 64 != p) = false := by simp [h]
    have HC : Hid (cmpv k p a = k % 64 - a) := by unfold Hid cmpv; rw [if_pos h]
    clear h
    go_enter Yba.func12, Yba.ntmps12
    go_wp2
    go_ret
    exact ⟨ret_int HC.out.symm, rfl⟩
  · have h1 : (k / 64 != p) = true := by simpa using h
    have HC : Hid (cmpv k p a = k / 64 - p) := by unfold Hid cmpv; rw [if_neg h]
    clear h
    go_enter Yba.func12, Yba.ntmps12
    go_wp2
    go_ret
    exact ⟨ret_int HC.out.symm, rfl⟩

theorem bel_drewN {B n : Nat} {a w : World} (h : Below B a w) : Below B a (w.drewN n) := ⟨h.os, h.tape, h.output, h.size, h.block⟩
theorem bel_al {w wr : World} {o o' : Obj} (h : Below (w.heap.size + 1) (w.alloc o) wr) : Below (w.heap.size + 1) (w.alloc o) (wr.alloc o') := h.alloc (by have := h.size; simp at this; omega) o'
theorem below_old {w wr : World} {o : Obj} (h : Below (w.heap.size + 1) (w.alloc o) wr) : Below w.heap.size w wr :=
  ((Below.refl _ _).alloc (Nat.le_refl _) _).trans (h.mono (by omega))
theorem ret2 {a : Int} {c c' : Bool} (k : c = c') : Ending.returned (.tuple #[.int .i64 a, .bool c]) = .returned (.tuple #[.int .i64 a, .bool c']) := by rw [k]
theorem up_of {k k' p a : Int} (h : k ≤ k') (hc : 0 ≤ cmpv k p a) : 0 ≤ cmpv k' p a := by
  by_cases e : cmpv k' p a < 0
  · have := cmpv_mono h e; omega
  · omega

theorem ok_of {ks : List Int} {p a k : Int} {i : Nat} (h : i < ks.length) (e : k = ks.getD i 0) : (cmpv k p a == 0) = decide (i < ks.length ∧ cmpv (ks.getD i 0) p a = 0) := by
  rw [e, Bool.eq_iff_iff, beq_iff_eq, decide_eq_true_iff]
  exact ⟨fun h2 => ⟨h, h2⟩, fun h2 => h2.2⟩

/-- The row of kept steps in block g: three cells a step. -/
def StepsAt (w : World) (g : Nat) (ks : List Int) : Prop := ∀ j, j < ks.length →
  w.cell? ⟨g, j * 3, none⟩ = some (.int .i64 (ks.getD j 0 / 64)) ∧ w.cell? ⟨g, j * 3 + 1, none⟩ = some (.int .i64 (ks.getD j 0 % 64)) ∧ w.cell? ⟨g, j * 3 + 2, none⟩ = some (.bool (ks.getD j 0 % 3 == 0))

set_option maxHeartbeats 2000000 in
theorem bsf_any (g cap : Nat) (ks : List Int) (p a : Int) (w : World) (hn : ks.length ≤ 1024) (hs : Asc ks) (hk : ∀ j, j < ks.length → 0 ≤ ks.getD j 0 ∧ ks.getD j 0 < 4096) (hp : -100 ≤ p ∧ p ≤ 100) (ha : -100 ≤ a ∧ a ≤ 100)
    (hg : g < w.heap.size) (hc : StepsAt w g ks) :
    Calls Yba.prog 11 #[.slice (some ⟨g, 0, none⟩) ks.length cap, stepV p a false, .func (.func 12) #[] #[]] w fun e w' =>
      ∃ i : Nat, Parts ks p a i ∧ e = .returned (.tuple #[.int .i64 i, .bool (decide (i < ks.length ∧ cmpv (ks.getD i 0) p a = 0))]) ∧ Below w.heap.size w w' := by
  have HS : Hid (Asc ks) := hs
  have HK : Hid (∀ j, j < ks.length → 0 ≤ ks.getD j 0 ∧ ks.getD j 0 < 4096) := hk
  have HC : Hid (StepsAt w g ks) := hc
  clear hs hk hc
  unfold stepV
  go_enter Yba.func11, Yba.ntmps11
  go_wp2
  go_loopg [9, 10] (ks.length) (fun m x y wr => ∃ i j : Nat, i ≤ j ∧ j ≤ ks.length ∧ m = j - i ∧ x = .int .i64 i ∧ y = .int .i64 j ∧ (∀ t, t < i → cmpv (ks.getD t 0) p a < 0) ∧ (∀ t, j ≤ t → t < ks.length → 0 ≤ cmpv (ks.getD t 0) p a) ∧
    Below (w.heap.size + 1) (w.alloc (.cells #[.int .i64 p, .int .i64 a, .bool false] 26)) wr)
  case atStart => exact ⟨0, ks.length, Nat.zero_le _, Nat.le_refl _, by omega, rfl, rfl, fun t ht => by omega, fun t h1 h2 => by omega, Below.refl _ _⟩
  case round =>
    obtain ⟨i, j, hij, hj, hm, rfl, rfl, hlo, hhi, hbel⟩ := hrel
    have HL : Hid (∀ t, t < i → cmpv (ks.getD t 0) p a < 0) := hlo
    have HH : Hid (∀ t, j ≤ t → t < ks.length → 0 ≤ cmpv (ks.getD t 0) p a) := hhi
    clear hlo hhi
    have t0 : wr.cell? ⟨w.heap.size, 0, none⟩ = some (.int .i64 p) := (hbel.cell (by simp)).trans (by rw [World.cell?_alloc_at _ _ _ _ rfl]; rfl)
    have t1 : wr.cell? ⟨w.heap.size, 1, none⟩ = some (.int .i64 a) := (hbel.cell (by simp)).trans (by rw [World.cell?_alloc_at _ _ _ _ rfl]; rfl)
    have t2 : wr.cell? ⟨w.heap.size, 2, none⟩ = some (.bool false) := (hbel.cell (by simp)).trans (by rw [World.cell?_alloc_at _ _ _ _ rfl]; rfl)
    by_cases hlt : i < j
    · obtain ⟨h, hhe, h1, h2⟩ : ∃ h : Nat, ((i : Int) + (j : Int)) / 2 = (h : Int) ∧ i ≤ h ∧ h < j := ⟨(i + j) / 2, by omega, by omega, by omega⟩
      obtain ⟨c0, c1, c2⟩ := HC.out h (by omega)
      have hkb := HK.out h (by omega)
      have e0 : ∀ o, wr.cell? ⟨g, o, none⟩ = w.cell? ⟨g, o, none⟩ := fun o => (hbel.cell (by simp; omega)).trans (World.cell?_alloc_past _ _ _ hg)
      rw [← e0] at c0 c1 c2
      clear e0
      obtain ⟨k, hke⟩ : ∃ k, k = ks.getD h 0 := ⟨_, rfl⟩
      rw [← hke] at c0 c1 c2 hkb
      have HE : Hid (k = ks.getD h 0) := hke
      clear hke
      have hl3 : (h : Int) < (ks.length : Int) := by omega
      have hws : w.heap.size < wr.heap.size := by have := hbel.size; simp at this; omega
      have hgs : g < wr.heap.size := by omega
      have hws1 : w.heap.size < wr.heap.size + 1 := by omega
      have hgs1 : g < wr.heap.size + 1 := by omega
      by_cases hneg : cmpv k p a < 0
      · go_wp2
        go_region_held3 (fun w' => w'.cell? ⟨g, h * 3, none⟩ = some (.int .i64 (k / 64)) ∧ w'.cell? ⟨g, h * 3 + 1, none⟩ = some (.int .i64 (k % 64)) ∧ w'.cell? ⟨g, h * 3 + 2, none⟩ = some (.bool (k % 3 == 0)) ∧ w'.cell? ⟨w.heap.size, 0, none⟩ = some (.int .i64 p) ∧ w'.cell? ⟨w.heap.size, 1, none⟩ = some (.int .i64 a) ∧ w'.cell? ⟨w.heap.size, 2, none⟩ = some (.bool false)) (go_keep) (first | (go_at_call 12; refine (compare_any k p a _ _ _ hkb hp ha).mono ?_; rintro e w' ⟨rfl, rfl⟩))
        all_goals go_wp2
        all_goals go_roundg (j - (h + 1))
        all_goals first
          | (show _ < _; omega)
          | exact ⟨h + 1, j, by omega, by omega, rfl, by go_num, rfl, fun t ht => cmpv_mono (HS.out.le (show t ≤ h by omega) (by omega)) (by rw [← HE.out]; exact hneg), HH.out, by repeat (first | exact hbel | apply Below.drew | apply bel_drewN | apply bel_al)⟩
      · have hpos : 0 ≤ cmpv k p a := by omega
        clear hneg
        go_wp2
        go_region_held3 (fun w' => w'.cell? ⟨g, h * 3, none⟩ = some (.int .i64 (k / 64)) ∧ w'.cell? ⟨g, h * 3 + 1, none⟩ = some (.int .i64 (k % 64)) ∧ w'.cell? ⟨g, h * 3 + 2, none⟩ = some (.bool (k % 3 == 0)) ∧ w'.cell? ⟨w.heap.size, 0, none⟩ = some (.int .i64 p) ∧ w'.cell? ⟨w.heap.size, 1, none⟩ = some (.int .i64 a) ∧ w'.cell? ⟨w.heap.size, 2, none⟩ = some (.bool false)) (go_keep) (first | (go_at_call 12; refine (compare_any k p a _ _ _ hkb hp ha).mono ?_; rintro e w' ⟨rfl, rfl⟩))
        all_goals go_wp2
        all_goals go_roundg (h - i)
        all_goals first
          | (show _ < _; omega)
          | exact ⟨i, h, by omega, by omega, rfl, rfl, rfl, HL.out, fun t h3 h4 => up_of (HS.out.le h3 h4) (by rw [← HE.out]; exact hpos), by repeat (first | exact hbel | apply Below.drew | apply bel_drewN | apply bel_al)⟩
    · have hij2 : i = j := by omega
      subst hij2
      have hpt : Parts ks p a i := ⟨hj, HL.out, HH.out⟩
      by_cases hin : i < ks.length
      · obtain ⟨c0, c1, c2⟩ := HC.out i hin
        have hkb := HK.out i hin
        have e0 : ∀ o, wr.cell? ⟨g, o, none⟩ = w.cell? ⟨g, o, none⟩ := fun o => (hbel.cell (by simp; omega)).trans (World.cell?_alloc_past _ _ _ hg)
        rw [← e0] at c0 c1 c2
        clear e0
        obtain ⟨k, hke⟩ : ∃ k, k = ks.getD i 0 := ⟨_, rfl⟩
        rw [← hke] at c0 c1 c2 hkb
        have HE : Hid (k = ks.getD i 0) := hke
        clear hke
        have hl3 : (i : Int) < (ks.length : Int) := by omega
        have hd : decide ((i : Int) < (ks.length : Int)) = true := decide_eq_true hl3
        have hws : w.heap.size < wr.heap.size := by have := hbel.size; simp at this; omega
        have hgs : g < wr.heap.size := by omega
        have hws1 : w.heap.size < wr.heap.size + 1 := by omega
        have hgs1 : g < wr.heap.size + 1 := by omega
        go_wp2
        go_region_held3 (fun w' => w'.cell? ⟨g, i * 3, none⟩ = some (.int .i64 (k / 64)) ∧ w'.cell? ⟨g, i * 3 + 1, none⟩ = some (.int .i64 (k % 64)) ∧ w'.cell? ⟨g, i * 3 + 2, none⟩ = some (.bool (k % 3 == 0)) ∧ w'.cell? ⟨w.heap.size, 0, none⟩ = some (.int .i64 p) ∧ w'.cell? ⟨w.heap.size, 1, none⟩ = some (.int .i64 a) ∧ w'.cell? ⟨w.heap.size, 2, none⟩ = some (.bool false)) (go_keep) (first | (go_at_call 12; refine (compare_any k p a _ _ _ hkb hp ha).mono ?_; rintro e w' ⟨rfl, rfl⟩))
        all_goals go_wp2
        all_goals go_ret2
        all_goals exact ⟨i, hpt, ret2 (ok_of hin HE.out), below_old (by repeat (first | exact hbel | apply Below.drew | apply bel_drewN | apply bel_al))⟩
      · go_wp2
        go_quiet (fail)
        go_wp2
        go_ret2
        exact ⟨i, hpt, ret2 (by simp [hin]), below_old (by repeat (first | exact hbel | apply Below.drew | apply bel_drewN | apply bel_al))⟩

/-- What find answers: the place, 1 or more, of the step (p, a), or 0. -/
def Found (ks : List Int) (p a : Int) (r : Int) : Prop :=
  (∃ i, i < ks.length ∧ cmpv (ks.getD i 0) p a = 0 ∧ r = (i : Int) + 1) ∨ ((∀ i, i < ks.length → ¬ cmpv (ks.getD i 0) p a = 0) ∧ r = 0)

theorem found_no {ks : List Int} {p a : Int} {i : Nat} (hs : Asc ks) (hpt : Parts ks p a i) (h : ¬ i < ks.length ∨ ¬ cmpv (ks[i]?.getD 0) p a = 0) : ∀ j, j < ks.length → ¬ cmpv (ks.getD j 0) p a = 0 := by
  intro j hj hz
  obtain rfl := hpt.only hs hj hz
  rcases h with h | h
  · exact h hj
  · exact h hz

set_option maxHeartbeats 1000000 in
theorem find_any (rb g cap : Nat) (ks : List Int) (p a : Int) (w : World) (hn : ks.length ≤ 1024) (hs : Asc ks) (hk : ∀ j, j < ks.length → 0 ≤ ks.getD j 0 ∧ ks.getD j 0 < 4096) (hp : -100 ≤ p ∧ p ≤ 100) (ha : -100 ≤ a ∧ a ≤ 100)
    (hg : g < w.heap.size) (hc : StepsAt w g ks) (hr : w.cell? ⟨rb, 3, none⟩ = some (.slice (some ⟨g, 0, none⟩) ks.length cap)) :
    Calls Yba.prog 7 #[.pointer (some ⟨rb, 0, none⟩), .int .i64 p, .int .i64 a] w fun e w' => ∃ r, Found ks p a r ∧ e = .returned (.int .i64 r) ∧ Below w.heap.size w w' := by
  have HS : Hid (Asc ks) := hs
  have HK : Hid (∀ j, j < ks.length → 0 ≤ ks.getD j 0 ∧ ks.getD j 0 < 4096) := hk
  have HC : Hid (StepsAt w g ks) := hc
  clear hs hk hc
  go_enter Yba.func7, Yba.ntmps7
  go_wp2_with (go_at_call 11; refine (bsf_any g cap ks p a _ hn HS.out HK.out hp ha hg HC.out).mono ?_; rintro e w' ⟨i, hpt, rfl, hbel⟩; have hil := hpt.le)
  · go_ret
    have h : i < ks.length ∧ cmpv (ks[i]?.getD 0) p a = 0 := by assumption
    exact ⟨_, .inl ⟨i, h.1, h.2, rfl⟩, rfl, hbel⟩
  · go_ret
    have h : ¬ i < ks.length ∨ ¬ cmpv (ks[i]?.getD 0) p a = 0 := by assumption
    exact ⟨_, .inr ⟨found_no HS.out hpt h, rfl⟩, rfl, hbel⟩
end Go.Proofs.Ybulkcyhy.find
