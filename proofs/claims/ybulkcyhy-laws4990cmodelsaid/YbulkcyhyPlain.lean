/- The plain part: sorted keys without repeats, and the order of kept steps. No Go in sight. -/
import Derived.Lib.SlicesCompact
namespace Go.Proofs.Ybulkcyhy.plain

/-! ### compact of a sorted list -/

theorem get_le {d : Array Int} (h : ∀ i j, i < j → j < d.size → d[i]! ≤ d[j]!) {i j : Nat} (hij : i ≤ j) (hj : j < d.size) : d[i]! ≤ d[j]! := by
  by_cases e : i = j
  · rw [e]; exact Int.le_refl _
  · exact h i j (by omega) hj

theorem upTo_facts {d : Array Int} (h : ∀ i j, i < j → j < d.size → d[i]! ≤ d[j]!) : ∀ m, m ≤ d.size →
    (Lib.compactUpTo d m).Pairwise (· < ·) ∧ (∀ x ∈ Lib.compactUpTo d m, ∃ j, j < m ∧ x = d[j]!) ∧ (Lib.compactUpTo d m).length ≤ m
  | 0, _ => by simp [Lib.compactUpTo]
  | m + 1, hm => by
    obtain ⟨h1, h2, h3⟩ := upTo_facts h m (by omega)
    rw [Lib.compactUpTo_succ]
    by_cases hk : Lib.keeps d m = true
    · rw [if_pos hk]
      refine ⟨?_, ?_, by simp; omega⟩
      · rw [List.pairwise_append]
        refine ⟨h1, List.pairwise_singleton _ _, fun x hx y hy => ?_⟩
        obtain rfl : y = d[m]! := by simpa using hy
        obtain ⟨j, hj, rfl⟩ := h2 x hx
        have a1 : d[j]! ≤ d[m - 1]! := get_le h (by omega) (by omega)
        have a2 : d[m - 1]! ≤ d[m]! := get_le h (by omega) (by omega)
        have a3 : d[m]! ≠ d[m - 1]! := by
          have : m = 0 ∨ d[m]! ≠ d[m - 1]! := by simpa [Lib.keeps] using hk
          rcases this with e | e
          · omega
          · exact e
        omega
      · intro x hx
        rcases List.mem_append.1 hx with hx | hx
        · obtain ⟨j, hj, e⟩ := h2 x hx
          exact ⟨j, by omega, e⟩
        · exact ⟨m, by omega, by simpa using hx⟩
    · rw [if_neg hk]
      refine ⟨by simpa using h1, ?_, by simp; omega⟩
      intro x hx
      obtain ⟨j, hj, e⟩ := h2 x (by simpa using hx)
      exact ⟨j, by omega, e⟩

/-- Keys, sorted and compacted: strictly ascending, each one of those that went in, no more of them. -/
theorem keys_facts (zs : List Int) :
    (Lib.compact (zs.mergeSort fun x y => decide (x ≤ y))).Pairwise (· < ·) ∧ (∀ x ∈ Lib.compact (zs.mergeSort fun x y => decide (x ≤ y)), x ∈ zs) ∧ (Lib.compact (zs.mergeSort fun x y => decide (x ≤ y))).length ≤ zs.length := by
  have hs : (zs.mergeSort fun x y => decide (x ≤ y)).Pairwise (fun x y => decide (x ≤ y) = true) :=
    List.pairwise_mergeSort (fun a b c h1 h2 => by simp at *; omega) (fun a b => by simp; omega) zs
  have hp : (zs.mergeSort fun x y => decide (x ≤ y)).Perm zs := List.mergeSort_perm _ _
  have hl := hp.length_eq
  generalize hS : (zs.mergeSort fun x y => decide (x ≤ y)) = S at hs hp hl ⊢
  have hd : ∀ i j, i < j → j < S.toArray.size → S.toArray[i]! ≤ S.toArray[j]! := by
    intro i j hij hj
    have hj' : j < S.length := by simpa using hj
    rw [List.pairwise_iff_getElem] at hs
    have := hs i j (by omega) hj' hij
    rw [getElem!_pos S.toArray i (by simp; omega), getElem!_pos S.toArray j hj]
    simpa using this
  obtain ⟨h1, h2, h3⟩ := upTo_facts hd S.length (by simp)
  refine ⟨h1, fun x hx => ?_, by unfold Lib.compact; omega⟩
  obtain ⟨j, hj, rfl⟩ := h2 x hx
  rw [getElem!_pos S.toArray j (by simpa using hj)]
  exact hp.mem_iff.1 (by simp)

/-! ### the order of kept steps -/

/-- What compareSteps says of the step of key k against the step (p, a). -/
def cmpv (k p a : Int) : Int := if k / 64 = p then k % 64 - a else k / 64 - p

theorem cmpv_mono {k k' p a : Int} (h : k ≤ k') (hc : cmpv k' p a < 0) : cmpv k p a < 0 := by
  unfold cmpv at *
  split at hc <;> split <;> omega

theorem cmpv_before {k k' p a : Int} (h : k < k') (hc : cmpv k' p a = 0) : cmpv k p a < 0 := by
  unfold cmpv at *
  split at hc <;> split <;> omega

theorem cmpv_zero {k p a : Int} : cmpv k p a = 0 ↔ k / 64 = p ∧ k % 64 = a := by
  unfold cmpv
  split <;> omega

theorem cmpv_self (k : Int) : cmpv k (k / 64) (k % 64) = 0 := cmpv_zero.2 ⟨rfl, rfl⟩

/-- Strictly ascending, by places. -/
def Asc (ks : List Int) : Prop := ∀ i j, i < j → j < ks.length → ks.getD i 0 < ks.getD j 0

theorem asc_of {ks : List Int} (h : ks.Pairwise (· < ·)) : Asc ks := fun i j hij hj => by
  rw [List.pairwise_iff_getElem] at h
  have := h i j (by omega) hj hij
  simpa [List.getD_eq_getElem?_getD, List.getElem?_eq_getElem hj, List.getElem?_eq_getElem (show i < ks.length by omega)] using this

theorem Asc.le {ks : List Int} (h : Asc ks) {i j : Nat} (hij : i ≤ j) (hj : j < ks.length) : ks.getD i 0 ≤ ks.getD j 0 := by
  by_cases e : i = j
  · rw [e]; exact Int.le_refl _
  · exact Int.le_of_lt (h i j (by omega) hj)

/-- i parts the places: ahead of it the steps are below (p, a), from it on they are not. -/
structure Parts (ks : List Int) (p a : Int) (i : Nat) : Prop where
  le : i ≤ ks.length
  low : ∀ j, j < i → cmpv (ks.getD j 0) p a < 0
  high : ∀ j, i ≤ j → j < ks.length → 0 ≤ cmpv (ks.getD j 0) p a

/-- The place that parts the list is the one place at which (p, a) can be. -/
theorem Parts.only {ks : List Int} {p a : Int} {i j : Nat} (hs : Asc ks) (h : Parts ks p a i) (hj : j < ks.length) (hz : cmpv (ks.getD j 0) p a = 0) : j = i := by
  rcases Nat.lt_trichotomy j i with e | e | e
  · have := h.low j e; omega
  · exact e
  · have h1 := h.high i (Nat.le_refl _) (by omega)
    have h2 := cmpv_before (hs i j e hj) hz
    omega
end Go.Proofs.Ybulkcyhy.plain
