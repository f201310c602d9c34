/- The law 'LawS4990CEvery': the walk, by the contracts of YbulkcyhyFind and YbulkcyhyBuild; the frame as the given shell has it. -/
import Derived.Test.YbulkcyhyRows
import Derived.WalkKit
import Derived.ProofKit
import Derived.OpenShut
import Derived.ShutString
import Derived.ChangeOld
import Derived.Below
import Derived.WalkSpells
import Derived.Deep.RegionWith
import Derived.Test.YbulkcyhyBuild
namespace Go.Proofs.Ybulkcyhy.lawS4990CEvery
open Go.ChangeShapes Go.WideShapes Go.ChangeAt Go.RowKit
open Go.ChangeMaps (open_string shut_string)
set_option linter.unusedVariables false

theorem own : ownKnob Yba.prog.godebug = none := by kernel_rfl
theorem laidOut : laidOutB Yba.prog = true := by kernel_rfl

open Go.Proofs.Ybulkcyhy.plain Go.Proofs.Ybulkcyhy.find Go.Proofs.Ybulkcyhy.build

/-- A kept step is found at its own place. -/
theorem found_self {ks : List Int} {i : Nat} {r : Int} (hs : Asc ks) (hi : i < ks.length) (h : find.Found ks (ks.getD i 0 / 64) (ks.getD i 0 % 64) r) : r = (i : Int) + 1 := by
  rcases h with ⟨j, hj, hz, rfl⟩ | ⟨hno, _⟩
  · rcases Nat.lt_trichotomy j i with e | e | e
    · have := cmpv_before (hs j i e hi) (cmpv_self (ks.getD i 0)); omega
    · rw [e]
    · have h1 := hs i j e hj
      have h2 := cmpv_zero.1 hz
      omega
  · exact absurd (cmpv_self _) (hno i hi)

set_option maxHeartbeats 2000000 in
theorem walk (a0 : Option Addr) (len0 cap0 : Nat) (z0 : List Int) (w : World) (w0 : IsRow .u16 w a0 len0 cap0 z0) :
    Calls Yba.prog 4 #[.slice a0 len0 cap0] w fun e w' => e = .returned (.bool true) ∧ Below w.heap.size w w' := by
  by_cases g0 : 1024 < (len0 : Int)
  · go_enter Yba.func4, Yba.ntmps4
    go_wp2
    go_ret
    exact ⟨rfl, Below.refl _ _⟩
  · have hl : len0 ≤ 1024 := by omega
    go_enter Yba.func4, Yba.ntmps4
    go_wp2_with (go_at_call 5; refine (build_any _ _ _ _ _ hl w0).mono ?_; rintro e w1 ⟨ks, g, hn, hasc, hkb, hgl, hgs, hst, rfl, hbel⟩; have HA : Hid (Asc ks) := hasc; have HK : Hid (∀ j, j < ks.length → 0 ≤ ks.getD j 0 ∧ ks.getD j 0 < 4096) := hkb; have HS : Hid (StepsAt w1 g ks) := hst; clear hasc hkb hst)
    obtain ⟨W, hW⟩ : ∃ W, W = (w1.alloc (.cells #[.int .u8 0] 5)).alloc (.cells #[.int .i64 3, .int .i64 0, .int .u64 0, .slice (some ⟨g, 0, none⟩) ks.length ks.length, .slice (some ⟨w1.heap.size, 0, none⟩) 1 1] 33) := ⟨_, rfl⟩
    have hWs : W.heap.size = w1.heap.size + 1 + 1 := by rw [hW]; simp
    have hWb : Below w1.heap.size w1 W := by rw [hW]; exact ((Below.refl _ _).alloc (Nat.le_refl _) _).alloc (by simp) _
    have hWr : W.cell? ⟨w1.heap.size + 1, 3, none⟩ = some (.slice (some ⟨g, 0, none⟩) ks.length ks.length) := by rw [hW, World.cell?_alloc_at _ _ _ _ (by simp)]; rfl
    have HST : Hid (StepsAt W g ks) := fun j hj => by
      obtain ⟨c0, c1, c2⟩ := HS.out j hj
      exact ⟨(hWb.cell hgs).trans c0, (hWb.cell hgs).trans c1, (hWb.cell hgs).trans c2⟩
    rw [← hW]
    have HBW : Hid (Below w.heap.size w W) := hbel.trans (hWb.mono hbel.size)
    have HWS : Hid (W.heap.size = w1.heap.size + 1 + 1) := hWs
    clear hW hWs hWb HS hbel
    go_loopw [5] (fun t wr => ∃ i : Nat, i ≤ ks.length ∧ t = .int .i64 i ∧ Below W.heap.size W wr) (fun t _ => ks.length - (intOf t).toNat)
    case atStart => exact ⟨0, Nat.zero_le _, rfl, Below.refl _ _⟩
    case round =>
      obtain ⟨i, hi, rfl, hbl⟩ := hrel
      by_cases hlt : i < ks.length
      · have hgW : g < W.heap.size := by rw [HWS.out]; omega
        have hrW : w1.heap.size + 1 < W.heap.size := by rw [HWS.out]; omega
        have HSR : Hid (StepsAt wr g ks) := fun j hj => by
          obtain ⟨c0, c1, c2⟩ := HST.out j hj
          exact ⟨(hbl.cell hgW).trans c0, (hbl.cell hgW).trans c1, (hbl.cell hgW).trans c2⟩
        have hrr : wr.cell? ⟨w1.heap.size + 1, 3, none⟩ = some (.slice (some ⟨g, 0, none⟩) ks.length ks.length) := (hbl.cell hrW).trans hWr
        obtain ⟨c0, c1, _⟩ := HSR.out i hlt
        have hkb := HK.out i hlt
        have HF : Hid (∀ r, find.Found ks (ks.getD i 0 / 64) (ks.getD i 0 % 64) r → r = (i : Int) + 1) := fun r h => found_self HA.out hlt h
        obtain ⟨k, hk⟩ : ∃ k, k = ks.getD i 0 := ⟨_, rfl⟩
        rw [← hk] at c0 c1 hkb HF
        have hgr : g < wr.heap.size := Nat.lt_of_lt_of_le hgW hbl.size
        have hl3 : (i : Int) < (ks.length : Int) := by omega
        have hw1 : IntKind.i64.wrap ((i : Int) + 1) = (i : Int) + 1 := IntWalk.i64_in _ (by omega)
        clear hk hWr
        go_wp2
        go_region_with (go_at_call 7; refine (find_any _ g ks.length ks (k / 64) (k % 64) _ hn HA.out HK.out ⟨by omega, by omega⟩ ⟨by omega, by omega⟩ (show g < wr.drew.heap.size from hgr) (show StepsAt wr.drew g ks from HSR.out) (show wr.drew.cell? _ = _ from hrr)).mono ?_; rintro e w' ⟨r, hf, rfl, hbf⟩; obtain rfl := HF.out r hf)
        all_goals go_wp2
        all_goals go_roundw
        all_goals first
          | exact ⟨i + 1, by omega, by go_num, hbl.trans ((Below.drew (Below.refl _ _)).trans hbf |>.mono hbl.size)⟩
          | (simp [intOf]; omega)
      · go_wp2
        go_ret
        exact ⟨rfl, HBW.out.trans (hbl.mono HBW.out.size)⟩

/-! ### THE ROW's STEP: WRITTEN OUT: LEAVE IT -/
set_option maxRecDepth 100000 in
theorem lifted (os : Os) (started : os.Started) (H : Type) (enc : TypeId × Value → H) :
    ReturnsInHanded {} Yba.checked os 4 .any (Rows.lawS4990CEverySpec.pre6 enc Yba.prog Yba.f4 Rows.lawS4990CEveryRow.domain false) (Rows.lawS4990CEverySpec.post enc Yba.prog Yba.f4 false true false false) := by
  refine returnsInHanded_of_change (C := Yba.checked) own started (by kernel_rfl) Yba.func4
    (ChangeSpec.witness6 (enc := enc) (C := Yba.checked) false ⟨#[], #[.slice none 0 0], []⟩ 8 (by kernel_rfl) (by kernel_rfl) (by kernel_rfl) (by kernel_rfl)) ?_
  intro W base args ds gs before hval0 hW hcnd _
  have hval : ∀ (j : Nat) t v, Yba.f4.params[j]? = some t → args[j]? = some v → Value.okWide Yba.prog W .any base t v := hval0
  have hW' := hW
  obtain ⟨p, q, hA0, hV, rfl, hfz, hnd⟩ := hW
  have hA : DataW.TrodAll enc Yba.prog W 0 (fun _ => true) true Yba.f4.params.toList args.toList ds p := hA0
  rw [Yba.params4] at hA hval
  obtain ⟨v0, vs0, d0, ds0, p0, q0, hargs, rfl, rfl, h0, r0⟩ := trodAll_cons hA
  obtain ⟨rfl, rfl, rfl⟩ := trodAll_nil r0
  obtain rfl : args = #[v0] := by cases args; simp_all
  obtain ⟨rfl, rfl⟩ := trodVars_none hV
  obtain ⟨a0, len0, cap0, rfl⟩ := okWide_slice Yba.underlying22 (hval 0 22 v0 rfl rfl)
  have k0 := h0
  have lt0 : ∀ x ∈ p0, x.block < W.heap.size := by obtain ⟨m, hm⟩ := k0; exact DataW.trod_lt m _ _ _ hm
  obtain ⟨z0, w0⟩ : ∃ zs, IsRow .u16 W a0 len0 cap0 zs := by
    obtain ⟨fuel, hf⟩ := h0
    rcases open_ints Yba.underlying22 Yba.underlying39 (by kernel_rfl) hf with ⟨hcs, _⟩ | ⟨x, l, c, zs, hcs, _, hl, hm, hz, _, hcell, hwz⟩
    · simp [Value.cells] at hcs
      obtain ⟨rfl, rfl, rfl⟩ := hcs
      exact ⟨[], .inl ⟨rfl, rfl, rfl, rfl⟩⟩
    · simp [Value.cells] at hcs
      obtain ⟨rfl, rfl, rfl⟩ := hcs
      exact ⟨zs, .inr ⟨_, rfl, hl, hm, by simpa using hz, hcell, hwz⟩⟩
  clear hA0 hval0
  refine (walk a0 len0 cap0 z0 W w0).mono fun e W' ⟨he, bel⟩ => ?_
  subst he
  exact ⟨_, rfl, _, _, _, [], _, [], hW', trodAll_mk1 (shut_bool Yba.underlying4 _), (trodAll_cons_mk (Below.trod laidOut (by kernel_rfl) (of_decide_eq_true (by kernel_rfl)) k0 bel lt0) trodAll_mk0), rfl, bel.frame _, fun h => by cases h⟩

theorem over : Rows.lawS4990CEveryRow.holds Yba.pinned (OpenSpec.ofChange Rows.lawS4990CEverySpec) :=
  OpenClaim.holds_of_wide 4 Yba.f4 rfl rfl rfl rfl rfl rfl rfl ⟨rfl, rfl, rfl, rfl, rfl⟩ rfl rfl rfl rfl rfl (by kernel_rfl) Yba.func4 (by kernel_rfl)
    (of_decide_eq_true (by kernel_rfl)) (by unfold Func.isWrapper; first | (rw [if_pos (by decide +kernel)]; kernel_rfl) | (rw [if_neg (by decide +kernel)]; exact ⟨rfl, rfl⟩))
    (fun os started H enc _ => lifted os started H enc)

/-- ████ THE STATEMENT ████ -/
theorem proved : Rows.LawS4990CEverySaid := over
end Go.Proofs.Ybulkcyhy.lawS4990CEvery
