/- zzs4990cbuild: kept steps, distinct and ascending, in a row of the call's own. -/
import Derived.Test.YbulkcyhyRows
import Derived.Test.YbulkcyhyFind
import Derived.Test.YbulkcyhyShelf
import Derived.Sort.OwnSortedInts
import Derived.WalkKit
import Derived.ProofKit
import Derived.OpenShut
import Derived.WalkSpells
namespace Go.Proofs.Ybulkcyhy.build
open Go.RowKit
open Go.Proofs.Ybulkcyhy.plain Go.Proofs.Ybulkcyhy.find
set_option linter.unusedVariables false

/-- WHAT THE WALK IS TOLD OF A SLICE OF INTEGERS THAT CAME IN (as the shells have it). -/
def IsRow (k : IntKind) (w : World) (a : Option Addr) (len cap : Nat) (zs : List Int) : Prop :=
  (a = none ∧ len = 0 ∧ cap = 0 ∧ zs = []) ∨
  ∃ x, a = some x ∧ len ≤ cap ∧ cap ≤ maxLen ∧ zs.length = cap ∧ (∀ i, i < zs.length → w.cell? (x.add i) = some (.int k (zs.getD i 0))) ∧ ∀ n ∈ zs, (Lit.int k n).wf = true

theorem info3 : (Yba.prog.info? 3).map (fun i => (i.zero, i.size, i.bytes)) = some (some (.int .i64 0), 1, 8) := by kernel_rfl
theorem info26 : (Yba.prog.info? 26).map (fun i => (i.zero, i.size, i.bytes)) = some (some (.agg #[.int .i64 0, .int .i64 0, .bool false]), 3, 24) := by kernel_rfl

/-- A row of ints in block g. -/
def RowI (w : World) (g : Nat) (zs : List Int) : Prop := ∀ j, j < zs.length → w.cell? ⟨g, j, none⟩ = some (.int .i64 (zs.getD j 0)) ∧ w.frozen? ⟨g, j, none⟩ = false

theorem arr_get (zs : List Int) {j : Nat} (h : j < zs.length) : zs.toArray[j]! = zs.getD j 0 := by
  rw [getElem!_pos zs.toArray j (by simpa using h)]
  simp [List.getD_eq_getElem?_getD, List.getElem?_eq_getElem h]

theorem RowI.holds {w : World} {g : Nat} {zs : List Int} (h : RowI w g zs) : Sort.Holds (Value.int .i64) w g 0 zs.toArray := fun j hj => by
  have hj' : j < zs.length := by simpa using hj
  rw [arr_get zs hj', Nat.zero_add]
  exact h j hj'

theorem RowI.of {w : World} {g : Nat} {zs : List Int} (h : Sort.Holds (Value.int .i64) w g 0 zs.toArray) : RowI w g zs := fun j hj => by
  have := h j (by simpa using hj)
  rw [arr_get zs hj, Nat.zero_add] at this
  exact this

theorem RowI.set {w : World} {g : Nat} {zs : List Int} (h : RowI w g zs) {k : Nat} (hk : k < zs.length) (x : Int) : RowI (w.setCell ⟨g, k, none⟩ (.int .i64 x)) g (zs.set k x) := fun j hj => by
  have hj' : j < zs.length := by simpa using hj
  obtain ⟨h1, h2⟩ := h j hj'
  refine ⟨?_, by rw [World.frozen?_setCell]; exact h2⟩
  by_cases e : j = k
  · subst e
    rw [World.cell?_setCell_same _ _ _ h1]
    simp [List.getD_eq_getElem?_getD, hj']
  · rw [World.cell?_setCell_other _ _ _ _ (by intro e2; injection e2 with e3 e4; exact e e4.symm), h1]
    simp [List.getD_eq_getElem?_getD, List.getElem?_set_ne (fun h => e h.symm)]

/-- slices.Sort of such a row. -/
theorem sort_any (g cap : Nat) (zs : List Int) (w : World) (h : RowI w g zs) (hg : g < w.heap.size) (hl : zs.length ≤ 1024) :
    Calls Yba.prog 9 #[.slice (some ⟨g, 0, none⟩) zs.length cap] w fun e w' => e = .returned (.tuple #[]) ∧ RowI w' g (zs.mergeSort fun x y => decide (x ≤ y)) ∧ w.grownBy w' (some g) := by
  refine (Yba.slices_Sort_int g 0 cap zs w h.holds hg (by omega)).mono fun e w' ⟨he, n, os, hw⟩ => ⟨he, ?_, ?_⟩
  · subst hw
    refine RowI.of (Sort.holds_grow _ _ _ _ _ _ (by simpa using hg) (Sort.holds_putRow _ _ _ _ _ _ (Sort.holds_ahead _ _ _ _ _ _ h.holds) ?_))
    simp
  · subst hw; exact grownBy_sortedI _

/-- slices.Compact of such a row. -/
theorem compact_any (g cap : Nat) (zs : List Int) (w : World) (h : RowI w g zs) (hg : g < w.heap.size) (hl : zs.length ≤ 1024) (hc : zs.length ≤ cap) :
    Calls Yba.prog 10 #[.slice (some ⟨g, 0, none⟩) zs.length cap] w fun e w' => e = .returned (.slice (some ⟨g, 0, none⟩) (Lib.compact zs).length cap) ∧
      (∀ j, j < (Lib.compact zs).length → w'.cell? ⟨g, j, none⟩ = some (.int .i64 ((Lib.compact zs).getD j 0))) ∧ w.grownBy w' (some g) := by
  refine (Yba.slices_Compact_int g 0 cap zs w h.holds (by omega) hc).mono fun e w' ⟨he, q, hw⟩ => ⟨he, ?_, ?_⟩
  · subst hw
    have hlen : (Lib.compact zs).length ≤ zs.length := by
      unfold Lib.compact Lib.compactUpTo
      rw [List.length_map]
      exact Nat.le_trans (List.length_filter_le _ _) (by simp)
    have hh := RowI.of (Sort.holds_putRow (Value.int .i64) (Sort.ahead w q) g 0 zs.toArray (Lib.compact zs ++ List.replicate (zs.length - (Lib.compact zs).length) 0).toArray (Sort.holds_ahead _ _ _ _ _ _ h.holds) (by simp; omega))
    intro j hj
    have := (hh j (by simp; omega)).1
    rw [this]
    simp [List.getD_eq_getElem?_getD, List.getElem?_append_left hj]
  · subst hw
    have := grownBy_sortedI (w := w) (g := g) (n := q) (os := #[]) (Lib.compact zs ++ List.replicate (zs.length - (Lib.compact zs).length) 0).toArray
    simpa using this

/-- Kept steps, the first k of them laid; every cell of the row is there and may be written. -/
structure Laid (w : World) (g : Nat) (ks : List Int) (k : Nat) : Prop where
  low : ∀ j, j < k → w.cell? ⟨g, j * 3, none⟩ = some (.int .i64 (ks.getD j 0 / 64)) ∧ w.cell? ⟨g, j * 3 + 1, none⟩ = some (.int .i64 (ks.getD j 0 % 64)) ∧ w.cell? ⟨g, j * 3 + 2, none⟩ = some (.bool (ks.getD j 0 % 3 == 0))
  all : ∀ o, o < ks.length * 3 → (∃ u, w.cell? ⟨g, o, none⟩ = some u) ∧ w.frozen? ⟨g, o, none⟩ = false

theorem set_there {w : World} {g o o' : Nat} {v : Value} (h : ∃ u, w.cell? ⟨g, o, none⟩ = some u) : ∃ u, (w.setCell ⟨g, o', none⟩ v).cell? ⟨g, o, none⟩ = some u := by
  obtain ⟨u, hu⟩ := h
  exact cell?_setCell_some hu

theorem set_ne {w : World} {g o o' : Nat} {v : Value} (h : o' ≠ o) : (w.setCell ⟨g, o', none⟩ v).cell? ⟨g, o, none⟩ = w.cell? ⟨g, o, none⟩ :=
  World.cell?_setCell_other _ _ _ _ (by intro e2; injection e2 with e3 e4; exact h e4)

theorem set_far {w : World} {g g' o o' : Nat} {v : Value} (h : g' ≠ g) : (w.setCell ⟨g', o', none⟩ v).cell? ⟨g, o, none⟩ = w.cell? ⟨g, o, none⟩ :=
  World.cell?_setCell_other _ _ _ _ (by intro e2; injection e2 with e3 e4; exact h e3)

/-- One step more. -/
theorem Laid.step {w : World} {g : Nat} {ks : List Int} {k : Nat} (h : Laid w g ks k) (hk : k < ks.length) (x : Int) (hx : x = ks.getD k 0) :
    Laid (((w.setCell ⟨g, k * 3, none⟩ (.int .i64 (x / 64))).setCell ⟨g, k * 3 + 1, none⟩ (.int .i64 (x % 64))).setCell ⟨g, k * 3 + 2, none⟩ (.bool (x % 3 == 0))) g ks (k + 1) := by
  refine ⟨fun j hj => ?_, fun o ho => ⟨set_there (set_there (set_there (h.all o ho).1)), by simpa using (h.all o ho).2⟩⟩
  by_cases e : j = k
  · subst e
    subst hx
    obtain ⟨u0, h0⟩ := (h.all (j * 3) (by omega)).1
    obtain ⟨u1, h1⟩ := (h.all (j * 3 + 1) (by omega)).1
    obtain ⟨u2, h2⟩ := (h.all (j * 3 + 2) (by omega)).1
    refine ⟨?_, ?_, ?_⟩
    · rw [set_ne (by omega), set_ne (by omega), World.cell?_setCell_same _ _ _ h0]
    · rw [set_ne (by omega), World.cell?_setCell_same _ _ _ ((set_ne (by omega)).trans h1)]
    · rw [World.cell?_setCell_same _ _ _ ((set_ne (by omega)).trans ((set_ne (by omega)).trans h2))]
  · obtain ⟨h0, h1, h2⟩ := h.low j (by omega)
    refine ⟨?_, ?_, ?_⟩
    · rw [set_ne (by omega), set_ne (by omega), set_ne (by omega)]; exact h0
    · rw [set_ne (by omega), set_ne (by omega), set_ne (by omega)]; exact h1
    · rw [set_ne (by omega), set_ne (by omega), set_ne (by omega)]; exact h2

/-- Sort, then Compact, by lengths that the walk shows. -/
theorem compact_at (g cap n : Nat) (zs : List Int) (w : World) (hn : zs.length = n) (h : RowI w g zs) (hg : g < w.heap.size) (hl : n ≤ 1024) (hc : n ≤ cap) :
    Calls Yba.prog 10 #[.slice (some ⟨g, 0, none⟩) n cap] w fun e w' => e = .returned (.slice (some ⟨g, 0, none⟩) (Lib.compact zs).length cap) ∧
      (∀ j, j < (Lib.compact zs).length → w'.cell? ⟨g, j, none⟩ = some (.int .i64 ((Lib.compact zs).getD j 0))) ∧ w.grownBy w' (some g) := by
  subst hn
  exact compact_any g cap zs w h hg hl hc

/-- What make has laid: every cell is there, and may be written. -/
theorem made_there {w : World} {base e size g n : Nat} {z : Array Value} (h : w.ownsRow base e size (.slice (some ⟨g, 0, none⟩) n n) n (madeCells z (n * size)).toList) :
    ∀ o, o < n * size → (∃ u, w.cell? ⟨g, o, none⟩ = some u) ∧ w.frozen? ⟨g, o, none⟩ = false := fun o ho => by
  refine ⟨⟨(madeCells z (n * size)).toList[o]'(by rw [Array.length_toList, size_madeCells]; exact ho), ?_⟩, h.frozenAt o⟩
  rw [h.cellAt o ho, List.getElem?_eq_getElem]

/-- .. ints: all nought. -/
theorem made_ints {w : World} {base e g n : Nat} (h : w.ownsRow base e 1 (.slice (some ⟨g, 0, none⟩) n n) n (madeCells (Value.int .i64 0).cells (n * 1)).toList) : RowI w g (List.replicate n 0) := fun j hj => by
  have hj' : j < n := by simpa using hj
  refine ⟨?_, h.frozenAt j⟩
  rw [h.cellAt j (by omega)]
  have : (Value.int .i64 0).cells = #[Value.int .i64 0] := rfl
  rw [this, toList_madeCells_one]
  simp [List.getD_eq_getElem?_getD, hj']

theorem mem_set_bd {zs : List Int} {k : Nat} {x : Int} (h : ∀ y ∈ zs, 0 ≤ y ∧ y < 4096) (hx : 0 ≤ x ∧ x < 4096) : ∀ y ∈ zs.set k x, 0 ≤ y ∧ y < 4096 := fun y hy => by
  rcases List.mem_or_eq_of_mem_set hy with e | e
  · exact h y e
  · rw [e]; exact hx

theorem getD_mem {ks : List Int} {j : Nat} (h : j < ks.length) : ks.getD j 0 ∈ ks := by
  rw [List.getD_eq_getElem?_getD, List.getElem?_eq_getElem h]
  simp

set_option maxHeartbeats 1000000 in
theorem build_any (a : Option Addr) (len cap : Nat) (z : List Int) (w : World) (hl : len ≤ 1024) (hrow : IsRow .u16 w a len cap z) :
    Calls Yba.prog 5 #[.slice a len cap] w fun e w' => ∃ (ks : List Int) (g : Nat), ks.length ≤ 1024 ∧ Asc ks ∧ (∀ j, j < ks.length → 0 ≤ ks.getD j 0 ∧ ks.getD j 0 < 4096) ∧
      w.heap.size ≤ g ∧ g < w'.heap.size ∧ StepsAt w' g ks ∧ e = .returned (.slice (some ⟨g, 0, none⟩) ks.length ks.length) ∧ Below w.heap.size w w' := by
  obtain ⟨i0, hi, hz0, hz1, hz2⟩ := info_parts info3
  obtain ⟨i1, hi1, hy0, hy1, hy2⟩ := info_parts info26
  have HR : Hid (IsRow .u16 w a len cap z) := hrow
  clear hrow
  go_enter Yba.func5, Yba.ntmps5
  go_wp2_with (at_make; refine wpList_make_full _ rfl _ _ 38 rfl w.heap.size 3 i0 (.int .i64 0) 1 Yba.underlying38 hi hz0 hz1 .i64 .i64 _ _ len rfl rfl ?c0 ?c1 ?c2 ?c3 ?c4 ?_; rotate_right; intro w1 hown1 hg1)
  case c0 => rfl
  case c1 => rfl
  case c2 => rw [hz2]; omega
  case c3 => unfold maxLen; omega
  case c4 => exact Nat.le_refl _
  have hb1 : Below w.heap.size w w1 := (Below.refl _ w).grown hg1 (Nat.le_refl _) (fun k hk => by cases hk)
  have hr1 := made_ints hown1
  have hs1 : w.heap.size < w1.heap.size := (hown1.lt w.heap.size rfl).2
  clear hown1 hg1
  go_loopw [14] (fun t wr => ∃ (k : Nat) (zs : List Int), k ≤ len ∧ t = .int .i64 k ∧ zs.length = len ∧ RowI wr w.heap.size zs ∧ (∀ y ∈ zs, 0 ≤ y ∧ y < 4096) ∧ w.heap.size < wr.heap.size ∧ Below w.heap.size w wr) (fun t _ => len - (intOf t).toNat)
  case atStart => exact ⟨0, List.replicate len 0, Nat.zero_le _, rfl, by simp, hr1, fun y hy => (by rw [List.eq_of_mem_replicate hy]; omega), hs1, hb1⟩
  case round =>
    clear hr1 hs1 hb1
    obtain ⟨k, zs, hk, rfl, hzl, hri, hbd, hws, hbl⟩ := hrel
    have HRI : Hid (RowI wr w.heap.size zs) := hri
    have HBD : Hid (∀ y ∈ zs, 0 ≤ y ∧ y < 4096) := hbd
    clear hri hbd
    by_cases hlt : k < len
    · rcases HR.out with ⟨_, h, _⟩ | ⟨x, rfl, hlc, hcm, hzl2, hcell, hwf⟩
      · omega
      obtain ⟨b, off, rfl, hc⟩ := ints_at hcell (by omega)
      have hcx0 := hc k (by omega)
      have hcw := hwf (z.getD k 0) (getD_mem (by omega))
      obtain ⟨c, hce⟩ : ∃ c, c = z.getD k 0 := ⟨_, rfl⟩
      rw [← hce] at hcx0 hcw
      have hcb := bounds_u16 hcw
      have hbB := World.block_lt_of_cell? _ _ hcx0
      have hcx : wr.cell? ⟨b, off + k, none⟩ = some (.int .u16 c) := (hbl.cell hbB).trans hcx0
      obtain ⟨hk1, hk2⟩ := HRI.out k (by omega)
      clear hc hcell hwf hce hcx0 hcw
      go_wp2
      go_roundw
      case rel => exact ⟨k + 1, zs.set k (c % 4096), by omega, by go_num, by simpa using hzl, HRI.out.set (by omega) _, mem_set_bd HBD.out (by omega), by simpa using hws, hbl.setCell (Nat.le_refl _) _⟩
      case measure => simp [intOf]; omega
    · obtain rfl : k = len := by omega
      clear HR
      subst hzl
      have hfacts := keys_facts zs
      have hsl : (zs.mergeSort fun x y => decide (x ≤ y)).length = zs.length := by simp
      obtain ⟨S, hS⟩ : ∃ S, S = zs.mergeSort fun x y => decide (x ≤ y) := ⟨_, rfl⟩
      rw [← hS] at hfacts hsl
      obtain ⟨ks, hks⟩ : ∃ ks, ks = Lib.compact S := ⟨_, rfl⟩
      rw [← hks] at hfacts
      obtain ⟨hasc, hmem, hkl⟩ := hfacts
      have HA : Hid (Asc ks) := asc_of hasc
      have HKB : Hid (∀ j, j < ks.length → 0 ≤ ks.getD j 0 ∧ ks.getD j 0 < 4096) := fun j hj => HBD.out _ (hmem _ (getD_mem hj))
      have HSS : Hid (S = zs.mergeSort fun x y => decide (x ≤ y)) := hS
      have HKS : Hid (ks = Lib.compact S) := hks
      have HSL : Hid (S.length = zs.length) := hsl
      clear hasc hmem hS hks hsl HBD
      go_wp2_with (first
        | (go_at_call 9; refine (sort_any _ _ zs _ HRI.out hws hl).mono ?_; rintro e w2 ⟨rfl, hr2, hg2⟩; have HR2 : Hid (RowI w2 w.heap.size S) := (by rw [HSS.out]; exact hr2); clear hr2; have hws2 := Nat.lt_of_lt_of_le hws hg2.size)
        | (go_at_call 10; refine (compact_at _ _ _ S _ HSL.out HR2.out hws2 hl (Nat.le_refl _)).mono ?_; rw [← HKS.out]; rintro e w3 ⟨rfl, hr3, hg3⟩; have HR3 : Hid (∀ j, j < ks.length → w3.cell? ⟨w.heap.size, j, none⟩ = some (.int .i64 (ks.getD j 0))) := hr3; clear hr3)
        | (at_make; refine wpList_make_full _ rfl _ _ 23 rfl w.heap.size 26 i1 (.agg #[.int .i64 0, .int .i64 0, .bool false]) 3 Yba.underlying23 hi1 hy0 hy1 .i64 .i64 _ _ ks.length rfl rfl ?d0 ?d1 ?d2 ?d3 ?d4 ?_; rotate_right; intro w4 hown4 hg4))
      case d0 => rfl
      case d1 => rfl
      case d2 => rw [hy2]; omega
      case d3 => unfold maxLen; omega
      case d4 => exact Nat.le_of_lt (Nat.lt_of_lt_of_le hws2 hg3.size)
      have hws3 : w.heap.size < w3.heap.size := Nat.lt_of_lt_of_le hws2 hg3.size
      have hb4 : Below w.heap.size w w4 := ((hbl.grown hg2 hbl.size (fun k hk => by cases hk; exact Nat.le_refl _)).grown hg3 (Nat.le_of_lt hws2) (fun k hk => by cases hk; exact Nat.le_refl _)).grown hg4 (Nat.le_of_lt hws3) (fun k hk => by cases hk)
      have hr4 : ∀ j, j < ks.length → w4.cell? ⟨w.heap.size, j, none⟩ = some (.int .i64 (ks.getD j 0)) := fun j hj => (World.cell?_of_block (hg4.block w.heap.size hws3 (by simp))).trans (HR3.out j hj)
      have hl4 : Laid w4 w3.heap.size ks 0 := ⟨fun j hj => by omega, made_there hown4⟩
      have hs4 : w3.heap.size < w4.heap.size := (hown4.lt w3.heap.size rfl).2
      clear hown4 hg4 hg3 hg2 hbl hws hws2 HRI HR2 HR3 HSS HKS HSL
      go_loopw [35] (fun t wx => ∃ k : Nat, k ≤ ks.length ∧ t = .int .i64 k ∧ Laid wx w3.heap.size ks k ∧ (∀ j, j < ks.length → wx.cell? ⟨w.heap.size, j, none⟩ = some (.int .i64 (ks.getD j 0))) ∧ w3.heap.size < wx.heap.size ∧ Below w.heap.size w wx) (fun t _ => ks.length - (intOf t).toNat)
      case atStart => exact ⟨0, Nat.zero_le _, rfl, hl4, hr4, hs4, hb4⟩
      case round =>
        clear hl4 hr4 hs4 hb4
        obtain ⟨m, hm, rfl, hld, hrk, hsx, hbx⟩ := hrel
        have HLD : Hid (Laid wr w3.heap.size ks m) := hld
        have HRK : Hid (∀ j, j < ks.length → wr.cell? ⟨w.heap.size, j, none⟩ = some (.int .i64 (ks.getD j 0))) := hrk
        clear hld hrk
        by_cases hlt : m < ks.length
        · have hkb := HKB.out m hlt
          have hck := HRK.out m hlt
          obtain ⟨x, hx⟩ : ∃ x, x = ks.getD m 0 := ⟨_, rfl⟩
          rw [← hx] at hkb hck
          have HX : Hid (x = ks.getD m 0) := hx
          clear hx
          obtain ⟨⟨u0, hu0⟩, hf0⟩ := HLD.out.all (m * 3) (by omega)
          obtain ⟨⟨u1, hu1⟩, hf1⟩ := HLD.out.all (m * 3 + 1) (by omega)
          obtain ⟨⟨u2, hu2⟩, hf2⟩ := HLD.out.all (m * 3 + 2) (by omega)
          have hne : w.heap.size ≠ w3.heap.size := by omega
          go_wp2
          go_roundw
          case rel => exact ⟨m + 1, by omega, by go_num, HLD.out.step hlt x HX.out, fun j hj => (by rw [set_far (by omega), set_far (by omega), set_far (by omega)]; exact HRK.out j hj), by simpa using hsx, ((hbx.setCell (by show _ ≤ w3.heap.size; omega) _).setCell (by show _ ≤ w3.heap.size; omega) _).setCell (by show _ ≤ w3.heap.size; omega) _⟩
          case measure => simp [intOf]; omega
        · obtain rfl : m = ks.length := by omega
          go_wp2
          go_ret
          exact ⟨ks, w3.heap.size, by omega, HA.out, HKB.out, by omega, hsx, HLD.out.low, rfl, hbx⟩
end Go.Proofs.Ybulkcyhy.build
