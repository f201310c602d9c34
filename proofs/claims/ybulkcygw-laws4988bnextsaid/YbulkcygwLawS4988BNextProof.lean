/- The law 'LawS4988BNext': the walk, by the contracts of YbulkcygwScan and YbulkcygwSrc; the frame as the given shell has it. -/
import Derived.Test.YbulkcygwRows
import Derived.WalkKit
import Derived.ProofKit
import Derived.OpenShut
import Derived.ShutString
import Derived.ChangeOld
import Derived.Below
import Derived.WalkSpells
import Derived.Test.YbulkcygwSrc
import Derived.Test.YbulkcygwScan
namespace Go.Proofs.Ybulkcygw.lawS4988BNext
open Go.ChangeShapes Go.WideShapes Go.ChangeAt Go.RowKit
open Go.ChangeMaps (open_string shut_string)
set_option linter.unusedVariables false

theorem own : ownKnob Yba.prog.godebug = none := by kernel_rfl
theorem laidOut : laidOutB Yba.prog = true := by kernel_rfl

open Go.Proofs.Ybulkcygw.src Go.Proofs.Ybulkcygw.scan Go.Proofs.Ybulkcygw.plain

theorem pos_of (a : Int) (src : ByteArray) : ∃ p : Nat, a % ((src.size : Int) + 1) = (p : Int) ∧ p ≤ src.size := by
  have h1 := Int.emod_nonneg a (show ((src.size : Int) + 1) ≠ 0 by omega)
  have h2 := Int.emod_lt_of_pos a (show 0 < (src.size : Int) + 1 by omega)
  exact ⟨(a % ((src.size : Int) + 1)).toNat, by omega, by omega⟩

set_option maxHeartbeats 2000000 in
theorem walk (a0 : ByteArray) (a1 : Option Addr) (len1 cap1 : Nat) (z1 : List Int) (a2 : Int) (a3 : Int) (w : World) (w0 : a0.size ≤ maxLen) (w1 : IsRow .u8 w a1 len1 cap1 z1) (w2 : (Lit.int .u64 a2).wf = true) (w3 : (Lit.int .u8 a3).wf = true) :
    Calls Yba.prog 4 #[.string a0, .slice a1 len1 cap1, .int .u64 a2, .int .u8 a3] w fun e w' => e = .returned (.bool true) ∧ Below w.heap.size w w' := by
  by_cases g0 : 4096 < (a0.size : Int)
  · go_enter Yba.func4, Yba.ntmps4
    go_wp2
    go_ret
    exact ⟨rfl, Below.refl _ _⟩
  · by_cases g1 : 4096 < (len1 : Int)
    · go_enter Yba.func4, Yba.ntmps4
      go_wp2
      go_ret
      exact ⟨rfl, Below.refl _ _⟩
    · have h0 : a0.size ≤ 4096 := by omega
      have h1 : len1 ≤ 4096 := by omega
      have b2 := bounds_u64 w2
      obtain ⟨x, hix⟩ := tbl_at a3 (bounds_u8 w3).1
      have b3 := bounds_u8 w3
      clear w0 w2 w3
      go_enter Yba.func4, Yba.ntmps4
      go_wp2_with (go_at_call 5; refine (src_any a0 a1 len1 cap1 z1 _ h0 h1 w1).mono ?_; rintro e wa ⟨src, hsz, rfl, hbel⟩; obtain ⟨p, hpe, hpl⟩ := pos_of a2 src)
      clear w1 hpe hix
      refine (accept_any wa.heap.size src p _ _ (by omega) hpl ?k0 ?k1 ?k2).mono ?_
      case k0 => rw [World.cell?_alloc_lt _ _ _ (by simp), World.cell?_alloc_mark]; rfl
      case k1 => rw [World.cell?_alloc_lt _ _ _ (by simp), World.cell?_alloc_mark]; rfl
      case k2 => rw [World.frozen?_alloc_past _ _ _ (by simp), World.frozen?_alloc_mark]; rfl
      rintro e wb ⟨q, hq, hrun, hnc, hcase⟩
      rcases hcase with ⟨hlt, he0, hmv, rfl⟩ | ⟨hno, hmv, rfl⟩
      · have he : (byt src q == (x.toNat : Int)) = true := beq_iff_eq.2 he0
        clear he0
        have hne : wa.heap.size + 1 ≠ wa.heap.size := by omega
        have k1 := hmv.pos
        have HB : Hid (Below w.heap.size w wb) := ((hbel.alloc hbel.size _).alloc (by have := hbel.size; simp; omega) _).trans (hmv.below hbel.size)
        have m0 : wb.cell? ⟨wa.heap.size + 1, 0, none⟩ = some (.string src) := (World.cell?_of_block (hmv.block _ hne)).trans (by rw [World.cell?_alloc_at _ _ _ _ (by simp)]; rfl)
        have m1 : wb.cell? ⟨wa.heap.size + 1, 1, none⟩ = some (.int .i64 p) := (World.cell?_of_block (hmv.block _ hne)).trans (by rw [World.cell?_alloc_at _ _ _ _ (by simp)]; rfl)
        have m2 : wb.frozen? ⟨wa.heap.size + 1, 1, none⟩ = false := (World.frozen?_of_block (hmv.block _ hne)).trans (by rw [World.frozen?_alloc_at _ _ _ _ (by simp)])
        have hsz2 := hbel.size
        clear hmv hbel
        go_wp2_with fail
        refine (next_any (wa.heap.size + 1) src p _ (by omega) hpl m0 m1 m2).mono ?_
        rintro e wc ⟨r, hr, hrun2, hnc2, hcase⟩
        obtain rfl : r = q := hrun2.one hnc2 hrun hnc
        rcases hcase with ⟨_, hmv2, rfl⟩ | ⟨h, _⟩
        · have c1 := hmv2.pos
          have c0 : wc.cell? ⟨wa.heap.size, 1, none⟩ = some (.int .i64 ↑(r + 1)) := (World.cell?_of_block (hmv2.block _ hne.symm)).trans k1
          clear k1 m0 m1 m2 hnc hnc2 hrun hrun2
          go_wp2
          go_region
          all_goals go_wp2
          all_goals go_ret
          all_goals exact ⟨rfl, (HB.out.trans (hmv2.below (by omega))).drew⟩
        · exact absurd hlt h
      · by_cases hlt : q < src.size
        · have he : (byt src q == (x.toNat : Int)) = false := beq_eq_false_iff_ne.2 (fun h => hno ⟨hlt, h⟩)
          clear hno
          have hne : wa.heap.size + 1 ≠ wa.heap.size := by omega
          have k1 := hmv.pos
          have HB : Hid (Below w.heap.size w wb) := ((hbel.alloc hbel.size _).alloc (by have := hbel.size; simp; omega) _).trans (hmv.below hbel.size)
          have m0 : wb.cell? ⟨wa.heap.size + 1, 0, none⟩ = some (.string src) := (World.cell?_of_block (hmv.block _ hne)).trans (by rw [World.cell?_alloc_at _ _ _ _ (by simp)]; rfl)
          have m1 : wb.cell? ⟨wa.heap.size + 1, 1, none⟩ = some (.int .i64 p) := (World.cell?_of_block (hmv.block _ hne)).trans (by rw [World.cell?_alloc_at _ _ _ _ (by simp)]; rfl)
          have m2 : wb.frozen? ⟨wa.heap.size + 1, 1, none⟩ = false := (World.frozen?_of_block (hmv.block _ hne)).trans (by rw [World.frozen?_alloc_at _ _ _ _ (by simp)])
          have hsz2 := hbel.size
          clear hmv hbel
          go_wp2_with fail
          refine (next_any (wa.heap.size + 1) src p _ (by omega) hpl m0 m1 m2).mono ?_
          rintro e wc ⟨r, hr, hrun2, hnc2, hcase⟩
          obtain rfl : r = q := hrun2.one hnc2 hrun hnc
          rcases hcase with ⟨_, hmv2, rfl⟩ | ⟨h, _⟩
          · have c1 := hmv2.pos
            have c0 : wc.cell? ⟨wa.heap.size, 1, none⟩ = some (.int .i64 ↑r) := (World.cell?_of_block (hmv2.block _ hne.symm)).trans k1
            clear k1 m0 m1 m2 hnc hnc2 hrun hrun2
            go_wp2
            go_region
            all_goals go_wp2
            all_goals go_ret
            all_goals exact ⟨rfl, (HB.out.trans (hmv2.below (by omega))).drew⟩
          · exact absurd hlt h
        · clear hno
          have hne : wa.heap.size + 1 ≠ wa.heap.size := by omega
          have k1 := hmv.pos
          have HB : Hid (Below w.heap.size w wb) := ((hbel.alloc hbel.size _).alloc (by have := hbel.size; simp; omega) _).trans (hmv.below hbel.size)
          have m0 : wb.cell? ⟨wa.heap.size + 1, 0, none⟩ = some (.string src) := (World.cell?_of_block (hmv.block _ hne)).trans (by rw [World.cell?_alloc_at _ _ _ _ (by simp)]; rfl)
          have m1 : wb.cell? ⟨wa.heap.size + 1, 1, none⟩ = some (.int .i64 p) := (World.cell?_of_block (hmv.block _ hne)).trans (by rw [World.cell?_alloc_at _ _ _ _ (by simp)]; rfl)
          have m2 : wb.frozen? ⟨wa.heap.size + 1, 1, none⟩ = false := (World.frozen?_of_block (hmv.block _ hne)).trans (by rw [World.frozen?_alloc_at _ _ _ _ (by simp)])
          have hsz2 := hbel.size
          clear hmv hbel
          go_wp2_with fail
          refine (next_any (wa.heap.size + 1) src p _ (by omega) hpl m0 m1 m2).mono ?_
          rintro e wc ⟨r, hr, hrun2, hnc2, hcase⟩
          obtain rfl : r = q := hrun2.one hnc2 hrun hnc
          rcases hcase with ⟨h, _⟩ | ⟨_, hmv2, rfl⟩
          · exact absurd h hlt
          · have c1 := hmv2.pos
            have c0 : wc.cell? ⟨wa.heap.size, 1, none⟩ = some (.int .i64 ↑r) := (World.cell?_of_block (hmv2.block _ hne.symm)).trans k1
            clear k1 m0 m1 m2 hnc hnc2 hrun hrun2
            go_wp2
            go_region
            all_goals go_wp2
            all_goals go_ret
            all_goals exact ⟨rfl, (HB.out.trans (hmv2.below (by omega))).drew⟩

/-! ### THE ROW's STEP: WRITTEN OUT: LEAVE IT -/
set_option maxRecDepth 100000 in
theorem lifted (os : Os) (started : os.Started) (H : Type) (enc : TypeId × Value → H) :
    ReturnsInHanded {} Yba.checked os 4 .any (Rows.lawS4988BNextSpec.pre6 enc Yba.prog Yba.f4 Rows.lawS4988BNextRow.domain false) (Rows.lawS4988BNextSpec.post enc Yba.prog Yba.f4 false true false false) := by
  refine returnsInHanded_of_change (C := Yba.checked) own started (by kernel_rfl) Yba.func4
    (ChangeSpec.witness6 (enc := enc) (C := Yba.checked) false ⟨#[], #[.string ByteArray.empty, .slice none 0 0, .int .u64 0, .int .u8 0], []⟩ 8 (by kernel_rfl) (by kernel_rfl) (by kernel_rfl) (by kernel_rfl)) ?_
  intro W base args ds gs before hval0 hW hcnd _
  have hval : ∀ (j : Nat) t v, Yba.f4.params[j]? = some t → args[j]? = some v → Value.okWide Yba.prog W .any base t v := hval0
  have hW' := hW
  obtain ⟨p, q, hA0, hV, rfl, hfz, hnd⟩ := hW
  have hA : DataW.TrodAll enc Yba.prog W 0 (fun _ => true) true Yba.f4.params.toList args.toList ds p := hA0
  rw [Yba.params4] at hA hval
  obtain ⟨v0, vs0, d0, ds0, p0, q0, hargs, rfl, rfl, h0, r0⟩ := trodAll_cons hA
  obtain ⟨v1, vs1, d1, ds1, p1, q1, rfl, rfl, rfl, h1, r1⟩ := trodAll_cons r0
  obtain ⟨v2, vs2, d2, ds2, p2, q2, rfl, rfl, rfl, h2, r2⟩ := trodAll_cons r1
  obtain ⟨v3, vs3, d3, ds3, p3, q3, rfl, rfl, rfl, h3, r3⟩ := trodAll_cons r2
  obtain ⟨rfl, rfl, rfl⟩ := trodAll_nil r3
  obtain rfl : args = #[v0, v1, v2, v3] := by cases args; simp_all
  obtain ⟨rfl, rfl⟩ := trodVars_none hV
  obtain ⟨a0, rfl, rfl, rfl, w0⟩ := open_string Yba.underlying9 (hval 0 9 v0 rfl rfl) h0
  obtain ⟨a1, len1, cap1, rfl⟩ := okWide_slice Yba.underlying22 (hval 1 22 v1 rfl rfl)
  have k1 := h1
  have lt1 : ∀ x ∈ p1, x.block < W.heap.size := by obtain ⟨m, hm⟩ := k1; exact DataW.trod_lt m _ _ _ hm
  obtain ⟨z1, w1⟩ : ∃ zs, IsRow .u8 W a1 len1 cap1 zs := by
    obtain ⟨fuel, hf⟩ := h1
    rcases open_ints Yba.underlying22 Yba.underlying5 (by kernel_rfl) hf with ⟨hcs, _⟩ | ⟨x, l, c, zs, hcs, _, hl, hm, hz, _, hcell, hwz⟩
    · simp [Value.cells] at hcs
      obtain ⟨rfl, rfl, rfl⟩ := hcs
      exact ⟨[], .inl ⟨rfl, rfl, rfl, rfl⟩⟩
    · simp [Value.cells] at hcs
      obtain ⟨rfl, rfl, rfl⟩ := hcs
      exact ⟨zs, .inr ⟨_, rfl, hl, hm, by simpa using hz, hcell, hwz⟩⟩
  obtain ⟨a2, rfl, rfl, rfl, w2⟩ := open_int Yba.underlying23 (hval 2 23 v2 rfl rfl) h2
  obtain ⟨a3, rfl, rfl, rfl, w3⟩ := open_int Yba.underlying5 (hval 3 5 v3 rfl rfl) h3
  clear hA0 hval0
  refine (walk a0 a1 len1 cap1 z1 a2 a3 W w0 w1 w2 w3).mono fun e W' ⟨he, bel⟩ => ?_
  subst he
  exact ⟨_, rfl, _, _, _, [], _, [], hW', trodAll_mk1 (shut_bool Yba.underlying4 _), (trodAll_cons_mk (shut_string Yba.underlying9 w0) (trodAll_cons_mk (Below.trod laidOut (by kernel_rfl) (of_decide_eq_true (by kernel_rfl)) k1 bel lt1) (trodAll_cons_mk (shut_int Yba.underlying23 w2) (trodAll_cons_mk (shut_int Yba.underlying5 w3) trodAll_mk0)))), rfl, bel.frame _, fun h => by cases h⟩

theorem over : Rows.lawS4988BNextRow.holds Yba.pinned (OpenSpec.ofChange Rows.lawS4988BNextSpec) :=
  OpenClaim.holds_of_wide 4 Yba.f4 rfl rfl rfl rfl rfl rfl rfl ⟨rfl, rfl, rfl, rfl, rfl⟩ rfl rfl rfl rfl rfl (by kernel_rfl) Yba.func4 (by kernel_rfl)
    (of_decide_eq_true (by kernel_rfl)) (by unfold Func.isWrapper; first | (rw [if_pos (by decide +kernel)]; kernel_rfl) | (rw [if_neg (by decide +kernel)]; exact ⟨rfl, rfl⟩))
    (fun os started H enc _ => lifted os started H enc)

/-- ████ THE STATEMENT ████ -/
theorem proved : Rows.LawS4988BNextSaid := over
end Go.Proofs.Ybulkcygw.lawS4988BNext
