/- The law 'LawS4990CModel': the walk, by the contracts of YbulkcyhyFind, YbulkcyhyBuild and YbulkcyhyClone; the frame as the given shell has it. -/
import Derived.Test.YbulkcyhyRows
import Derived.WalkKit
import Derived.ProofKit
import Derived.OpenShut
import Derived.ShutString
import Derived.ChangeOld
import Derived.Below
import Derived.WalkSpells
import Derived.Test.YbulkcyhyClone
namespace Go.Proofs.Ybulkcyhy.lawS4990CModel
open Go.ChangeShapes Go.WideShapes Go.ChangeAt Go.RowKit
open Go.ChangeMaps (open_string shut_string)
set_option linter.unusedVariables false

theorem own : ownKnob Yba.prog.godebug = none := by kernel_rfl
theorem laidOut : laidOutB Yba.prog = true := by kernel_rfl

open Go.Proofs.Ybulkcyhy.plain Go.Proofs.Ybulkcyhy.find Go.Proofs.Ybulkcyhy.build Go.Proofs.Ybulkcyhy.clone

theorem pick_of (x : Int) (len : Nat) (h0 : 0 ≤ x) (hl : 0 < len) : ∃ j : Nat, x % (len : Int) = (j : Int) ∧ j < len := by
  have h1 := Int.emod_nonneg x (show (len : Int) ≠ 0 by omega)
  have h2 := Int.emod_lt_of_pos x (show 0 < (len : Int) by omega)
  exact ⟨(x % (len : Int)).toNat, by omega, by omega⟩

theorem steps_below {w w' : World} {g B : Nat} {ks : List Int} (h : StepsAt w g ks) (hb : Below B w w') (hg : g < B) : StepsAt w' g ks := fun j hj => by
  obtain ⟨c0, c1, c2⟩ := h j hj
  exact ⟨(hb.cell hg).trans c0, (hb.cell hg).trans c1, (hb.cell hg).trans c2⟩

/-- What the linear search has, the first i places looked at. -/
def Upto (ks : List Int) (p a : Int) (i : Nat) (v : Int) : Prop :=
  (∃ j, j < i ∧ cmpv (ks.getD j 0) p a = 0 ∧ v = (j : Int) + 1) ∨ ((∀ j, j < i → ¬ cmpv (ks.getD j 0) p a = 0) ∧ v = 0)

theorem Upto.hit {ks : List Int} {p a : Int} {i : Nat} (h : cmpv (ks.getD i 0) p a = 0) : Upto ks p a (i + 1) ((i : Int) + 1) := .inl ⟨i, by omega, h, rfl⟩

theorem Upto.miss {ks : List Int} {p a : Int} {i : Nat} {v : Int} (hu : Upto ks p a i v) (h : ¬ cmpv (ks.getD i 0) p a = 0) : Upto ks p a (i + 1) v := by
  rcases hu with ⟨j, hj, hz, e⟩ | ⟨hno, e⟩
  · exact .inl ⟨j, by omega, hz, e⟩
  · refine .inr ⟨fun j hj => ?_, e⟩
    by_cases ej : j = i
    · rw [ej]; exact h
    · exact hno j (by omega)

theorem one_place {ks : List Int} {p a : Int} {i j : Nat} (hs : Asc ks) (hi : i < ks.length) (hj : j < ks.length) (h1 : cmpv (ks.getD i 0) p a = 0) (h2 : cmpv (ks.getD j 0) p a = 0) : i = j := by
  rcases Nat.lt_trichotomy i j with e | e | e
  · have := cmpv_before (hs i j e hj) h2; omega
  · exact e
  · have := cmpv_before (hs j i e hi) h1; omega

/-- The two searches agree. -/
theorem agree {ks : List Int} {p a r v : Int} (hs : Asc ks) (hf : find.Found ks p a r) (hu : Upto ks p a ks.length v) : r = v := by
  rcases hf with ⟨i, hi, hz, rfl⟩ | ⟨hno, rfl⟩
  · rcases hu with ⟨j, hj, hz2, rfl⟩ | ⟨hno2, _⟩
    · rw [one_place hs hi hj hz hz2]
    · exact absurd hz (hno2 i hi)
  · rcases hu with ⟨j, hj, hz2, _⟩ | ⟨_, e⟩
    · exact absurd hz2 (hno j hj)
    · exact e.symm

set_option maxHeartbeats 2000000 in
theorem walk (a0 : Option Addr) (len0 cap0 : Nat) (z0 : List Int) (a1 : Int) (a2 : Int) (a3 : Int) (w : World) (w0 : IsRow .u16 w a0 len0 cap0 z0) (w1 : (Lit.int .u8 a1).wf = true) (w2 : (Lit.int .u8 a2).wf = true) (w3 : (Lit.int .u8 a3).wf = true) :
    Calls Yba.prog 3 #[.slice a0 len0 cap0, .int .u8 a1, .int .u8 a2, .int .u8 a3] w fun e w' => e = .returned (.bool true) ∧ Below w.heap.size w w' := by
  by_cases g0 : 1024 < (len0 : Int)
  · go_enter Yba.func3, Yba.ntmps3
    go_wp2
    go_ret
    exact ⟨rfl, Below.refl _ _⟩
  · have hl : len0 ≤ 1024 := by omega
    have b1 := bounds_u8 w1
    have b2 := bounds_u8 w2
    have b3 := bounds_u8 w3
    clear w1 w2 w3
    by_cases hpk : a1 % 2 = 0
    · have e2 : (a1 % 2 == 0) = true := beq_iff_eq.2 hpk
      clear hpk
      go_enter Yba.func3, Yba.ntmps3
      go_wp2_with fail
      refine (build_any _ _ _ _ _ hl w0).mono ?_
      rintro e w1' ⟨ks, g, hn, hasc, hkb, hgl, hgs, hst, rfl, hbel⟩
      have HA : Hid (Asc ks) := hasc
      have HK : Hid (∀ j, j < ks.length → 0 ≤ ks.getD j 0 ∧ ks.getD j 0 < 4096) := hkb
      have HS : Hid (StepsAt w1' g ks) := hst
      by_cases hz : 0 < ks.length
      · obtain ⟨j, hj, hjl⟩ := pick_of (a1 / 2) ks.length (by omega) hz
        obtain ⟨c0, c1, c2⟩ := hst j hjl
        have hxb := hkb j hjl
        obtain ⟨x, hx⟩ : ∃ x, x = ks.getD j 0 := ⟨_, rfl⟩
        rw [← hx] at c0 c1 c2 hxb
        have hl2 : (j : Int) < (ks.length : Int) := by omega
        clear hasc hkb hst hx
        go_wp2_with fail
        refine (clone_any g _ ks _ hn ?_ ?_).mono ?_
        · simp; omega
        · exact steps_below HS.out ((Below.refl _ _).alloc (Nat.le_refl _) _) hgs
        rintro e w2 ⟨g2, cap2, hg2a, hg2b, hst2, rfl, hb2⟩
        have HB2 : Hid (Below w.heap.size w w2) := (hbel.alloc hbel.size _).trans (hb2.mono (by have := hbel.size; simp; omega))
        have HS2 : Hid (StepsAt w2 g ks) := steps_below (steps_below HS.out ((Below.refl _ _).alloc (Nat.le_refl _) _) hgs) hb2 (by simp; omega)
        have HT2 : Hid (StepsAt w2 g2 ks) := hst2
        have hgw2 : g < w2.heap.size := Nat.lt_of_lt_of_le (by simp; omega) hb2.size
        clear hst2 hb2 HS hbel hgs
        go_wp2_with fail
        refine (find_any _ g ks.length ks (x / 64) (x % 64 + a3 % 3 - 1) _ hn HA.out HK.out ⟨by omega, by omega⟩ ⟨by omega, by omega⟩ ?_ ?_ ?_).mono ?_
        · simp; omega
        · exact steps_below HS2.out (((Below.refl _ _).alloc (Nat.le_refl _) _).alloc (by simp) _) hgw2
        · rw [World.cell?_alloc_at _ _ _ _ (by simp)]; rfl
        rintro e w3 ⟨r, hf, rfl, hb3⟩
        have hb3' : Below w2.heap.size w2 w3 := (((Below.refl _ w2).alloc (Nat.le_refl _) _).alloc (by simp) _).trans (hb3.mono (by simp; omega))
        have hrt : w3.cell? ⟨w2.heap.size + 1, 3, none⟩ = some (.slice (some ⟨g, 0, none⟩) ks.length ks.length) := (hb3.cell (by simp)).trans (by rw [World.cell?_alloc_at _ _ _ _ (by simp)]; rfl)
        have HS3 : Hid (StepsAt w3 g ks) := steps_below HS2.out hb3' hgw2
        have HT3 : Hid (StepsAt w3 g2 ks) := steps_below HT2.out hb3' hg2b
        have HB3 : Hid (Below w.heap.size w w3) := HB2.out.trans (hb3'.mono HB2.out.size)
        have HF : Hid (∀ v, Upto ks (x / 64) (x % 64 + a3 % 3 - 1) ks.length v → r = v) := fun v hv => agree HA.out hf hv
        clear hf hb3 hb3' HB2 HS2 HT2
        go_wp2
        go_loop [16, 17] (fun t u => ∃ (i : Nat) (v : Int), i ≤ ks.length ∧ u = .int .i64 i ∧ t = .int .i64 v ∧ Upto ks (x / 64) (x % 64 + a3 % 3 - 1) i v) (fun _ u => ks.length - (intOf u).toNat)
        case atStart => exact ⟨0, 0, Nat.zero_le _, rfl, rfl, .inr ⟨fun j hj => by omega, rfl⟩⟩
        case round =>
          obtain ⟨i, v, hi, rfl, rfl, hup⟩ := hrel
          have HU : Hid (Upto ks (x / 64) (x % 64 + a3 % 3 - 1) i v) := hup
          clear hup
          by_cases hlt : i < ks.length
          · obtain ⟨c0, c1, _⟩ := HS3.out i hlt
            obtain ⟨k, hk⟩ : ∃ k, k = ks.getD i 0 := ⟨_, rfl⟩
            rw [← hk] at c0 c1
            have HX : Hid (k = ks.getD i 0) := hk
            clear hk
            have hl3 : (i : Int) < (ks.length : Int) := by omega
            by_cases h1 : k / 64 = x / 64
            · have d1 : (k / 64 == x / 64) = true := beq_iff_eq.2 h1
              by_cases h2 : k % 64 = x % 64 + a3 % 3 - 1
              · have d2 : (k % 64 == x % 64 + a3 % 3 - 1) = true := beq_iff_eq.2 h2
                have HZ : Hid (cmpv (ks.getD i 0) (x / 64) (x % 64 + a3 % 3 - 1) = 0) := (by rw [← HX.out]; exact cmpv_zero.2 ⟨h1, h2⟩)
                clear h1 h2
                go_wp2
                go_round
                case rel => exact ⟨i + 1, _, by omega, by go_num, rfl, Upto.hit HZ.out⟩
                case measure => simp [intOf]; omega
              · have d2 : (k % 64 == x % 64 + a3 % 3 - 1) = false := beq_eq_false_iff_ne.2 h2
                have HZ : Hid (¬ cmpv (ks.getD i 0) (x / 64) (x % 64 + a3 % 3 - 1) = 0) := (by rw [← HX.out]; exact fun h => h2 (cmpv_zero.1 h).2)
                clear h1 h2
                go_wp2
                go_round
                case rel => exact ⟨i + 1, v, by omega, by go_num, rfl, HU.out.miss HZ.out⟩
                case measure => simp [intOf]; omega
            · have d1 : (k / 64 == x / 64) = false := beq_eq_false_iff_ne.2 h1
              have HZ : Hid (¬ cmpv (ks.getD i 0) (x / 64) (x % 64 + a3 % 3 - 1) = 0) := (by rw [← HX.out]; exact fun h => h1 (cmpv_zero.1 h).1)
              clear h1
              go_wp2
              go_round
              case rel => exact ⟨i + 1, v, by omega, by go_num, rfl, HU.out.miss HZ.out⟩
              case measure => simp [intOf]; omega
          · obtain rfl : i = ks.length := by omega
            obtain rfl := HF.out v HU.out
            go_wp2_with (go_at_call 8; refine (equal_any g _ g2 _ ks _ hn HS3.out HT3.out).mono ?_; rintro e w4 ⟨rfl, hb4⟩)
            go_ret
            exact ⟨rfl, HB3.out.trans (hb4.mono HB3.out.size)⟩
      · clear hasc hkb hst
        go_wp2_with fail
        refine (clone_any g _ ks _ hn ?_ ?_).mono ?_
        · exact hgs
        · exact HS.out
        rintro e w2 ⟨g2, cap2, hg2a, hg2b, hst2, rfl, hb2⟩
        have HB2 : Hid (Below w.heap.size w w2) := hbel.trans (hb2.mono hbel.size)
        have HS2 : Hid (StepsAt w2 g ks) := steps_below (HS.out) hb2 (hgs)
        have HT2 : Hid (StepsAt w2 g2 ks) := hst2
        have hgw2 : g < w2.heap.size := Nat.lt_of_lt_of_le (hgs) hb2.size
        clear hst2 hb2 HS hbel hgs
        go_wp2_with fail
        refine (find_any _ g ks.length ks (a2 % 66) (a3 % 66 - 1) _ hn HA.out HK.out ⟨by omega, by omega⟩ ⟨by omega, by omega⟩ ?_ ?_ ?_).mono ?_
        · simp; omega
        · exact steps_below HS2.out (((Below.refl _ _).alloc (Nat.le_refl _) _).alloc (by simp) _) hgw2
        · rw [World.cell?_alloc_at _ _ _ _ (by simp)]; rfl
        rintro e w3 ⟨r, hf, rfl, hb3⟩
        have hb3' : Below w2.heap.size w2 w3 := (((Below.refl _ w2).alloc (Nat.le_refl _) _).alloc (by simp) _).trans (hb3.mono (by simp; omega))
        have hrt : w3.cell? ⟨w2.heap.size + 1, 3, none⟩ = some (.slice (some ⟨g, 0, none⟩) ks.length ks.length) := (hb3.cell (by simp)).trans (by rw [World.cell?_alloc_at _ _ _ _ (by simp)]; rfl)
        have HS3 : Hid (StepsAt w3 g ks) := steps_below HS2.out hb3' hgw2
        have HT3 : Hid (StepsAt w3 g2 ks) := steps_below HT2.out hb3' hg2b
        have HB3 : Hid (Below w.heap.size w w3) := HB2.out.trans (hb3'.mono HB2.out.size)
        have HF : Hid (∀ v, Upto ks (a2 % 66) (a3 % 66 - 1) ks.length v → r = v) := fun v hv => agree HA.out hf hv
        clear hf hb3 hb3' HB2 HS2 HT2
        go_wp2
        go_loop [16, 17] (fun t u => ∃ (i : Nat) (v : Int), i ≤ ks.length ∧ u = .int .i64 i ∧ t = .int .i64 v ∧ Upto ks (a2 % 66) (a3 % 66 - 1) i v) (fun _ u => ks.length - (intOf u).toNat)
        case atStart => exact ⟨0, 0, Nat.zero_le _, rfl, rfl, .inr ⟨fun j hj => by omega, rfl⟩⟩
        case round =>
          obtain ⟨i, v, hi, rfl, rfl, hup⟩ := hrel
          have HU : Hid (Upto ks (a2 % 66) (a3 % 66 - 1) i v) := hup
          clear hup
          by_cases hlt : i < ks.length
          · omega
          · obtain rfl : i = ks.length := by omega
            obtain rfl := HF.out v HU.out
            go_wp2_with (go_at_call 8; refine (equal_any g _ g2 _ ks _ hn HS3.out HT3.out).mono ?_; rintro e w4 ⟨rfl, hb4⟩)
            go_ret
            exact ⟨rfl, HB3.out.trans (hb4.mono HB3.out.size)⟩
    · have e2 : (a1 % 2 == 0) = false := by simpa using hpk
      clear hpk
      go_enter Yba.func3, Yba.ntmps3
      go_wp2_with (go_at_call 5; refine (build_any _ _ _ _ _ hl w0).mono ?_; rintro e w1' ⟨ks, g, hn, hasc, hkb, hgl, hgs, hst, rfl, hbel⟩; have HA : Hid (Asc ks) := hasc; have HK : Hid (∀ j, j < ks.length → 0 ≤ ks.getD j 0 ∧ ks.getD j 0 < 4096) := hkb; have HS : Hid (StepsAt w1' g ks) := hst; clear hasc hkb hst)
      refine (clone_any g _ ks _ hn ?_ ?_).mono ?_
      · exact hgs
      · exact HS.out
      rintro e w2 ⟨g2, cap2, hg2a, hg2b, hst2, rfl, hb2⟩
      have HB2 : Hid (Below w.heap.size w w2) := hbel.trans (hb2.mono hbel.size)
      have HS2 : Hid (StepsAt w2 g ks) := steps_below (HS.out) hb2 (hgs)
      have HT2 : Hid (StepsAt w2 g2 ks) := hst2
      have hgw2 : g < w2.heap.size := Nat.lt_of_lt_of_le (hgs) hb2.size
      clear hst2 hb2 HS hbel hgs
      go_wp2_with fail
      refine (find_any _ g ks.length ks (a2 % 66) (a3 % 66 - 1) _ hn HA.out HK.out ⟨by omega, by omega⟩ ⟨by omega, by omega⟩ ?_ ?_ ?_).mono ?_
      · simp; omega
      · exact steps_below HS2.out (((Below.refl _ _).alloc (Nat.le_refl _) _).alloc (by simp) _) hgw2
      · rw [World.cell?_alloc_at _ _ _ _ (by simp)]; rfl
      rintro e w3 ⟨r, hf, rfl, hb3⟩
      have hb3' : Below w2.heap.size w2 w3 := (((Below.refl _ w2).alloc (Nat.le_refl _) _).alloc (by simp) _).trans (hb3.mono (by simp; omega))
      have hrt : w3.cell? ⟨w2.heap.size + 1, 3, none⟩ = some (.slice (some ⟨g, 0, none⟩) ks.length ks.length) := (hb3.cell (by simp)).trans (by rw [World.cell?_alloc_at _ _ _ _ (by simp)]; rfl)
      have HS3 : Hid (StepsAt w3 g ks) := steps_below HS2.out hb3' hgw2
      have HT3 : Hid (StepsAt w3 g2 ks) := steps_below HT2.out hb3' hg2b
      have HB3 : Hid (Below w.heap.size w w3) := HB2.out.trans (hb3'.mono HB2.out.size)
      have HF : Hid (∀ v, Upto ks (a2 % 66) (a3 % 66 - 1) ks.length v → r = v) := fun v hv => agree HA.out hf hv
      clear hf hb3 hb3' HB2 HS2 HT2
      go_wp2
      go_loop [16, 17] (fun t u => ∃ (i : Nat) (v : Int), i ≤ ks.length ∧ u = .int .i64 i ∧ t = .int .i64 v ∧ Upto ks (a2 % 66) (a3 % 66 - 1) i v) (fun _ u => ks.length - (intOf u).toNat)
      case atStart => exact ⟨0, 0, Nat.zero_le _, rfl, rfl, .inr ⟨fun j hj => by omega, rfl⟩⟩
      case round =>
        obtain ⟨i, v, hi, rfl, rfl, hup⟩ := hrel
        have HU : Hid (Upto ks (a2 % 66) (a3 % 66 - 1) i v) := hup
        clear hup
        by_cases hlt : i < ks.length
        · obtain ⟨c0, c1, _⟩ := HS3.out i hlt
          obtain ⟨k, hk⟩ : ∃ k, k = ks.getD i 0 := ⟨_, rfl⟩
          rw [← hk] at c0 c1
          have HX : Hid (k = ks.getD i 0) := hk
          clear hk
          have hl3 : (i : Int) < (ks.length : Int) := by omega
          by_cases h1 : k / 64 = a2 % 66
          · have d1 : (k / 64 == a2 % 66) = true := beq_iff_eq.2 h1
            by_cases h2 : k % 64 = a3 % 66 - 1
            · have d2 : (k % 64 == a3 % 66 - 1) = true := beq_iff_eq.2 h2
              have HZ : Hid (cmpv (ks.getD i 0) (a2 % 66) (a3 % 66 - 1) = 0) := (by rw [← HX.out]; exact cmpv_zero.2 ⟨h1, h2⟩)
              clear h1 h2
              go_wp2
              go_round
              case rel => exact ⟨i + 1, _, by omega, by go_num, rfl, Upto.hit HZ.out⟩
              case measure => simp [intOf]; omega
            · have d2 : (k % 64 == a3 % 66 - 1) = false := beq_eq_false_iff_ne.2 h2
              have HZ : Hid (¬ cmpv (ks.getD i 0) (a2 % 66) (a3 % 66 - 1) = 0) := (by rw [← HX.out]; exact fun h => h2 (cmpv_zero.1 h).2)
              clear h1 h2
              go_wp2
              go_round
              case rel => exact ⟨i + 1, v, by omega, by go_num, rfl, HU.out.miss HZ.out⟩
              case measure => simp [intOf]; omega
          · have d1 : (k / 64 == a2 % 66) = false := beq_eq_false_iff_ne.2 h1
            have HZ : Hid (¬ cmpv (ks.getD i 0) (a2 % 66) (a3 % 66 - 1) = 0) := (by rw [← HX.out]; exact fun h => h1 (cmpv_zero.1 h).1)
            clear h1
            go_wp2
            go_round
            case rel => exact ⟨i + 1, v, by omega, by go_num, rfl, HU.out.miss HZ.out⟩
            case measure => simp [intOf]; omega
        · obtain rfl : i = ks.length := by omega
          obtain rfl := HF.out v HU.out
          go_wp2_with (go_at_call 8; refine (equal_any g _ g2 _ ks _ hn HS3.out HT3.out).mono ?_; rintro e w4 ⟨rfl, hb4⟩)
          go_ret
          exact ⟨rfl, HB3.out.trans (hb4.mono HB3.out.size)⟩

/-! ### THE ROW's STEP: WRITTEN OUT: LEAVE IT -/
set_option maxRecDepth 100000 in
theorem lifted (os : Os) (started : os.Started) (H : Type) (enc : TypeId × Value → H) :
    ReturnsInHanded {} Yba.checked os 3 .any (Rows.lawS4990CModelSpec.pre6 enc Yba.prog Yba.f3 Rows.lawS4990CModelRow.domain false) (Rows.lawS4990CModelSpec.post enc Yba.prog Yba.f3 false true false false) := by
  refine returnsInHanded_of_change (C := Yba.checked) own started (by kernel_rfl) Yba.func3
    (ChangeSpec.witness6 (enc := enc) (C := Yba.checked) false ⟨#[], #[.slice none 0 0, .int .u8 0, .int .u8 0, .int .u8 0], []⟩ 8 (by kernel_rfl) (by kernel_rfl) (by kernel_rfl) (by kernel_rfl)) ?_
  intro W base args ds gs before hval0 hW hcnd _
  have hval : ∀ (j : Nat) t v, Yba.f3.params[j]? = some t → args[j]? = some v → Value.okWide Yba.prog W .any base t v := hval0
  have hW' := hW
  obtain ⟨p, q, hA0, hV, rfl, hfz, hnd⟩ := hW
  have hA : DataW.TrodAll enc Yba.prog W 0 (fun _ => true) true Yba.f3.params.toList args.toList ds p := hA0
  rw [Yba.params3] at hA hval
  obtain ⟨v0, vs0, d0, ds0, p0, q0, hargs, rfl, rfl, h0, r0⟩ := trodAll_cons hA
  obtain ⟨v1, vs1, d1, ds1, p1, q1, rfl, rfl, rfl, h1, r1⟩ := trodAll_cons r0
  obtain ⟨v2, vs2, d2, ds2, p2, q2, rfl, rfl, rfl, h2, r2⟩ := trodAll_cons r1
  obtain ⟨v3, vs3, d3, ds3, p3, q3, rfl, rfl, rfl, h3, r3⟩ := trodAll_cons r2
  obtain ⟨rfl, rfl, rfl⟩ := trodAll_nil r3
  obtain rfl : args = #[v0, v1, v2, v3] := by cases args; simp_all
  obtain ⟨rfl, rfl⟩ := trodVars_none hV
  obtain ⟨a0, len0, cap0, rfl⟩ := okWide_slice Yba.underlying22 (hval 0 22 v0 rfl rfl)
  have k0 := h0
  have lt0 : ∀ x ∈ p0, x.block < W.heap.size := by obtain ⟨m, hm⟩ := k0; exact DataW.trod_lt m _ _ _ hm
  obtain ⟨z0, w0⟩ : ∃ zs, IsRow .u16 W a0 len0 cap0 zs := by
    obtain ⟨fuel, hf⟩ := h0
    rcases open_ints Yba.underlying22 Yba.underlying39 (by kernel_rfl) hf with ⟨hcs, _⟩ | ⟨x, l, c, zs, hcs, _, hl, hm, hz, _, hcell, hwz⟩
    · simp [Value.cells] at hcs
      obtain ⟨rfl, rfl, rfl⟩ := hcs
      exact ⟨[], .inl ⟨rfl, rfl, rfl, rfl⟩⟩
    · simp [Value.cells] at hcs
      obtain ⟨rfl, rfl, rfl⟩ := hcs
      exact ⟨zs, .inr ⟨_, rfl, hl, hm, by simpa using hz, hcell, hwz⟩⟩
  obtain ⟨a1, rfl, rfl, rfl, w1⟩ := open_int Yba.underlying5 (hval 1 5 v1 rfl rfl) h1
  obtain ⟨a2, rfl, rfl, rfl, w2⟩ := open_int Yba.underlying5 (hval 2 5 v2 rfl rfl) h2
  obtain ⟨a3, rfl, rfl, rfl, w3⟩ := open_int Yba.underlying5 (hval 3 5 v3 rfl rfl) h3
  clear hA0 hval0
  refine (walk a0 len0 cap0 z0 a1 a2 a3 W w0 w1 w2 w3).mono fun e W' ⟨he, bel⟩ => ?_
  subst he
  exact ⟨_, rfl, _, _, _, [], _, [], hW', trodAll_mk1 (shut_bool Yba.underlying4 _), (trodAll_cons_mk (Below.trod laidOut (by kernel_rfl) (of_decide_eq_true (by kernel_rfl)) k0 bel lt0) (trodAll_cons_mk (shut_int Yba.underlying5 w1) (trodAll_cons_mk (shut_int Yba.underlying5 w2) (trodAll_cons_mk (shut_int Yba.underlying5 w3) trodAll_mk0)))), rfl, bel.frame _, fun h => by cases h⟩

theorem over : Rows.lawS4990CModelRow.holds Yba.pinned (OpenSpec.ofChange Rows.lawS4990CModelSpec) :=
  OpenClaim.holds_of_wide 3 Yba.f3 rfl rfl rfl rfl rfl rfl rfl ⟨rfl, rfl, rfl, rfl, rfl⟩ rfl rfl rfl rfl rfl (by kernel_rfl) Yba.func3 (by kernel_rfl)
    (of_decide_eq_true (by kernel_rfl)) (by unfold Func.isWrapper; first | (rw [if_pos (by decide +kernel)]; kernel_rfl) | (rw [if_neg (by decide +kernel)]; exact ⟨rfl, rfl⟩))
    (fun os started H enc _ => lifted os started H enc)

/-- ████ THE STATEMENT ████ -/
theorem proved : Rows.LawS4990CModelSaid := over
end Go.Proofs.Ybulkcyhy.lawS4990CModel
