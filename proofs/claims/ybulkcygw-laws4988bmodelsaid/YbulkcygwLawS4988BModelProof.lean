/- The law 'LawS4988BModel': the walk, by the contracts of YbulkcygwScan and YbulkcygwSrc; the frame as the given shell has it. -/
import Derived.Test.YbulkcygwRows
import Derived.WalkKit
import Derived.ProofKit
import Derived.OpenShut
import Derived.ShutString
import Derived.ChangeOld
import Derived.Below
import Derived.WalkSpells
import Derived.Test.YbulkcygwSrc
import Derived.Test.YbulkcygwScan
namespace Go.Proofs.Ybulkcygw.lawS4988BModel
open Go.ChangeShapes Go.WideShapes Go.ChangeAt Go.RowKit
open Go.ChangeMaps (open_string shut_string)
set_option linter.unusedVariables false

theorem own : ownKnob Yba.prog.godebug = none := by kernel_rfl
theorem laidOut : laidOutB Yba.prog = true := by kernel_rfl

open Go.Proofs.Ybulkcygw.src Go.Proofs.Ybulkcygw.scan Go.Proofs.Ybulkcygw.plain

theorem pos_of (a : Int) (src : ByteArray) : ∃ p : Nat, a % ((src.size : Int) + 1) = (p : Int) ∧ p ≤ src.size :=
  by
  have h1 := Int.emod_nonneg a (show ((src.size : Int) + 1) ≠ 0 by omega)
  have h2 := Int.emod_lt_of_pos a (show 0 < (src.size : Int) + 1 by omega)
  exact ⟨(a % ((src.size : Int) + 1)).toNat, by omega, by omega⟩

theorem eql_nil (w : World) : (binOp .eql 22 (.slice none 0 0) (.slice none 0 0)).run Yba.prog w = .ok (.bool true) w := by kernel_rfl
theorem eql_none (w : World) : (binOp .eql 32 (.agg #[.int .u8 0, .string ⟨#[]⟩, .int .i64 0]) (.agg #[.int .u8 0, .string ⟨#[]⟩, .int .i64 0])).run Yba.prog w = .ok (.bool true) w := by kernel_rfl

theorem eq_of_byt {src : ByteArray} {q : Nat} {W : Int} (hlt : q < src.size) (h : byt src q = W) : (((src[q]'hlt).toNat : Int) == W) = true := by
  rw [← byt_eq hlt]; exact beq_iff_eq.2 h
theorem ne_of_byt {src : ByteArray} {q : Nat} {W : Int} (hlt : q < src.size) (h : ¬ byt src q = W) : (((src[q]'hlt).toNat : Int) == W) = false := by
  rw [← byt_eq hlt]; exact beq_eq_false_iff_ne.2 h

/-! ### STEP 1: THE WALK: the Go text returns true, AND WRITES NOTHING THAT WAS THERE: 'Below w.heap.size w w'' (Derived/Below.lean: '.refl', '.alloc', '.drew', '.setCell' at a new block, '.trans'). Open each 'IsRow' by 'rcases' AHEAD of 'go_enter'; part every test ahead of the walk. -/
set_option maxHeartbeats 2000000 in
theorem walk (a0 : ByteArray) (a1 : Option Addr) (len1 cap1 : Nat) (z1 : List Int) (a2 : Int) (a3 : Int) (a4 : Int) (a5 : Bool) (w : World) (w0 : a0.size ≤ maxLen) (w1 : IsRow .u8 w a1 len1 cap1 z1) (w2 : (Lit.int .u64 a2).wf = true) (w3 : (Lit.int .u8 a3).wf = true) (w4 : (Lit.int .u8 a4).wf = true) :
    Calls Yba.prog 3 #[.string a0, .slice a1 len1 cap1, .int .u64 a2, .int .u8 a3, .int .u8 a4, .bool a5] w fun e w' => e = .returned (.bool true) ∧ Below w.heap.size w w' := by
  by_cases g0 : 4096 < (a0.size : Int)
  · go_enter Yba.func3, Yba.ntmps3
    go_wp2
    go_ret
    exact ⟨rfl, Below.refl _ _⟩
  · by_cases g1 : 4096 < (len1 : Int)
    · go_enter Yba.func3, Yba.ntmps3
      go_wp2
      go_ret
      exact ⟨rfl, Below.refl _ _⟩
    · have h0 : a0.size ≤ 4096 := by omega
      have h1 : len1 ≤ 4096 := by omega
      have b2 := bounds_u64 w2
      obtain ⟨x, hix⟩ := tbl_at a3 (bounds_u8 w3).1
      have b3 := bounds_u8 w3
      clear w0 w2 w3 w4
      have q1 := eql_nil
      have q2 := eql_none
      cases a5
      all_goals
        go_enter Yba.func3, Yba.ntmps3
        go_wp2_with (go_at_call 5; refine (src_any a0 a1 len1 cap1 z1 _ h0 h1 w1).mono ?_; rintro e wa ⟨src, hsz, rfl, hbel⟩; obtain ⟨p, hpe, hpl⟩ := pos_of a2 src)
        clear w1 hpe hix
        refine (accept_any wa.heap.size src p _ _ (by omega) hpl ?k0 ?k1 ?k2).mono ?_
        case k0 => rw [World.cell?_alloc_mark]; rfl
        case k1 => rw [World.cell?_alloc_mark]; rfl
        case k2 => rw [World.frozen?_alloc_mark]; rfl
        rintro e wb ⟨q, hq, hrun, hnc, hcase⟩
        rcases hcase with ⟨hlt, he0, hmv, rfl⟩ | ⟨hno, hmv, rfl⟩
        · have he := eq_of_byt hlt he0
          clear he0
          have k0 : wb.cell? ⟨wa.heap.size, 0, none⟩ = some (.string src) := (hmv.other 0 (by decide)).trans (by rw [World.cell?_alloc_mark]; rfl)
          have k1 := hmv.pos
          have k2 : wb.cell? ⟨wa.heap.size, 2, none⟩ = some (.int .i64 0) := (hmv.other 2 (by decide)).trans (by rw [World.cell?_alloc_mark]; rfl)
          have k3 : wb.cell? ⟨wa.heap.size, 3, none⟩ = some (.slice none 0 0) := (hmv.other 3 (by decide)).trans (by rw [World.cell?_alloc_mark]; rfl)
          have k8 : wb.cell? ⟨wa.heap.size, 8, none⟩ = some (.int .u8 0) := (hmv.other 8 (by decide)).trans (by rw [World.cell?_alloc_mark]; rfl)
          have k9 : wb.cell? ⟨wa.heap.size, 9, none⟩ = some (.string ⟨#[]⟩) := (hmv.other 9 (by decide)).trans (by rw [World.cell?_alloc_mark]; rfl)
          have k10 : wb.cell? ⟨wa.heap.size, 10, none⟩ = some (.int .i64 0) := (hmv.other 10 (by decide)).trans (by rw [World.cell?_alloc_mark]; rfl)
          have k11 : wb.cell? ⟨wa.heap.size, 11, none⟩ = some (.int .i64 0) := (hmv.other 11 (by decide)).trans (by rw [World.cell?_alloc_mark]; rfl)
          have HB : Below w.heap.size w wb := (hbel.alloc hbel.size _).trans (hmv.below hbel.size)
          clear hmv hbel
          go_wp2
          go_loop [18] (fun t => ∃ r : Nat, r ≤ src.size ∧ t = .int .i64 r ∧ Run src p r) (fun t => src.size - (intOf t).toNat)
          case atStart => exact ⟨p, hpl, rfl, Run.refl _ _⟩
          case round =>
            obtain ⟨r, hr, rfl, hrr⟩ := hrel
            by_cases hc : cont src r
            · have HC : Hid (Run src p (r + 2)) := hrr.step hc
              obtain ⟨h2, e1, e2⟩ := hc
              have h2' : (r : Int) + 1 < (src.size : Int) := by omega
              have h3 : r < src.size := by omega
              have f1 := eq_of_byt h3 e1
              have f2 := eq_of_byt h2 e2
              have hi2 := idx_succ src r h2
              clear e1 e2 hnc hrr hrun k0 k1 k2 k3 k8 k9 k10 k11
              go_wp2
              go_round
              case rel => exact ⟨r + 2, by omega, by go_num, HC.out⟩
              case measure => simp [intOf]; omega
            · obtain rfl : r = q := hrr.one hc hrun hnc
              by_cases h2 : r + 1 < src.size
              · have h2' : (r : Int) + 1 < (src.size : Int) := by omega
                have hi2 := idx_succ src r h2
                have h3 : r < src.size := by omega
                by_cases e1 : byt src r = 92
                · have f1 := eq_of_byt h3 e1
                  have f2 := ne_of_byt h2 (fun e2 => hc ⟨h2, e1, e2⟩)
                  clear hc hrun hrr hnc e1
                  go_wp2
                  go_ret
                  exact ⟨rfl, HB⟩
                · have f1 := ne_of_byt h3 e1
                  clear hc hrun hrr hnc e1
                  go_wp2
                  go_ret
                  exact ⟨rfl, HB⟩
              · clear hc hrun hrr hnc
                go_wp2
                go_ret
                exact ⟨rfl, HB⟩
        · by_cases hlt : q < src.size
          · have he := ne_of_byt hlt (fun h => hno ⟨hlt, h⟩)
            clear hno
            have k0 : wb.cell? ⟨wa.heap.size, 0, none⟩ = some (.string src) := (hmv.other 0 (by decide)).trans (by rw [World.cell?_alloc_mark]; rfl)
            have k1 := hmv.pos
            have k2 : wb.cell? ⟨wa.heap.size, 2, none⟩ = some (.int .i64 0) := (hmv.other 2 (by decide)).trans (by rw [World.cell?_alloc_mark]; rfl)
            have k3 : wb.cell? ⟨wa.heap.size, 3, none⟩ = some (.slice none 0 0) := (hmv.other 3 (by decide)).trans (by rw [World.cell?_alloc_mark]; rfl)
            have k8 : wb.cell? ⟨wa.heap.size, 8, none⟩ = some (.int .u8 0) := (hmv.other 8 (by decide)).trans (by rw [World.cell?_alloc_mark]; rfl)
            have k9 : wb.cell? ⟨wa.heap.size, 9, none⟩ = some (.string ⟨#[]⟩) := (hmv.other 9 (by decide)).trans (by rw [World.cell?_alloc_mark]; rfl)
            have k10 : wb.cell? ⟨wa.heap.size, 10, none⟩ = some (.int .i64 0) := (hmv.other 10 (by decide)).trans (by rw [World.cell?_alloc_mark]; rfl)
            have k11 : wb.cell? ⟨wa.heap.size, 11, none⟩ = some (.int .i64 0) := (hmv.other 11 (by decide)).trans (by rw [World.cell?_alloc_mark]; rfl)
            have HB : Below w.heap.size w wb := (hbel.alloc hbel.size _).trans (hmv.below hbel.size)
            clear hmv hbel
            go_wp2
            go_loop [18] (fun t => ∃ r : Nat, r ≤ src.size ∧ t = .int .i64 r ∧ Run src p r) (fun t => src.size - (intOf t).toNat)
            case atStart => exact ⟨p, hpl, rfl, Run.refl _ _⟩
            case round =>
              obtain ⟨r, hr, rfl, hrr⟩ := hrel
              by_cases hc : cont src r
              · have HC : Hid (Run src p (r + 2)) := hrr.step hc
                obtain ⟨h2, e1, e2⟩ := hc
                have h2' : (r : Int) + 1 < (src.size : Int) := by omega
                have h3 : r < src.size := by omega
                have f1 := eq_of_byt h3 e1
                have f2 := eq_of_byt h2 e2
                have hi2 := idx_succ src r h2
                clear e1 e2 hnc hrr hrun k0 k1 k2 k3 k8 k9 k10 k11
                go_wp2
                go_round
                case rel => exact ⟨r + 2, by omega, by go_num, HC.out⟩
                case measure => simp [intOf]; omega
              · obtain rfl : r = q := hrr.one hc hrun hnc
                by_cases h2 : r + 1 < src.size
                · have h2' : (r : Int) + 1 < (src.size : Int) := by omega
                  have hi2 := idx_succ src r h2
                  have h3 : r < src.size := by omega
                  by_cases e1 : byt src r = 92
                  · have f1 := eq_of_byt h3 e1
                    have f2 := ne_of_byt h2 (fun e2 => hc ⟨h2, e1, e2⟩)
                    clear hc hrun hrr hnc e1
                    go_wp2
                    go_ret
                    exact ⟨rfl, HB⟩
                  · have f1 := ne_of_byt h3 e1
                    clear hc hrun hrr hnc e1
                    go_wp2
                    go_ret
                    exact ⟨rfl, HB⟩
                · clear hc hrun hrr hnc
                  go_wp2
                  go_ret
                  exact ⟨rfl, HB⟩
          · clear hno
            have k0 : wb.cell? ⟨wa.heap.size, 0, none⟩ = some (.string src) := (hmv.other 0 (by decide)).trans (by rw [World.cell?_alloc_mark]; rfl)
            have k1 := hmv.pos
            have k2 : wb.cell? ⟨wa.heap.size, 2, none⟩ = some (.int .i64 0) := (hmv.other 2 (by decide)).trans (by rw [World.cell?_alloc_mark]; rfl)
            have k3 : wb.cell? ⟨wa.heap.size, 3, none⟩ = some (.slice none 0 0) := (hmv.other 3 (by decide)).trans (by rw [World.cell?_alloc_mark]; rfl)
            have k8 : wb.cell? ⟨wa.heap.size, 8, none⟩ = some (.int .u8 0) := (hmv.other 8 (by decide)).trans (by rw [World.cell?_alloc_mark]; rfl)
            have k9 : wb.cell? ⟨wa.heap.size, 9, none⟩ = some (.string ⟨#[]⟩) := (hmv.other 9 (by decide)).trans (by rw [World.cell?_alloc_mark]; rfl)
            have k10 : wb.cell? ⟨wa.heap.size, 10, none⟩ = some (.int .i64 0) := (hmv.other 10 (by decide)).trans (by rw [World.cell?_alloc_mark]; rfl)
            have k11 : wb.cell? ⟨wa.heap.size, 11, none⟩ = some (.int .i64 0) := (hmv.other 11 (by decide)).trans (by rw [World.cell?_alloc_mark]; rfl)
            have HB : Below w.heap.size w wb := (hbel.alloc hbel.size _).trans (hmv.below hbel.size)
            clear hmv hbel
            go_wp2
            go_loop [18] (fun t => ∃ r : Nat, r ≤ src.size ∧ t = .int .i64 r ∧ Run src p r) (fun t => src.size - (intOf t).toNat)
            case atStart => exact ⟨p, hpl, rfl, Run.refl _ _⟩
            case round =>
              obtain ⟨r, hr, rfl, hrr⟩ := hrel
              by_cases hc : cont src r
              · have HC : Hid (Run src p (r + 2)) := hrr.step hc
                obtain ⟨h2, e1, e2⟩ := hc
                have h2' : (r : Int) + 1 < (src.size : Int) := by omega
                have h3 : r < src.size := by omega
                have f1 := eq_of_byt h3 e1
                have f2 := eq_of_byt h2 e2
                have hi2 := idx_succ src r h2
                clear e1 e2 hnc hrr hrun k0 k1 k2 k3 k8 k9 k10 k11
                go_wp2
                go_round
                case rel => exact ⟨r + 2, by omega, by go_num, HC.out⟩
                case measure => simp [intOf]; omega
              · obtain rfl : r = q := hrr.one hc hrun hnc
                by_cases h2 : r + 1 < src.size
                · exact absurd (show r < src.size by omega) hlt
                · clear hc hrun hrr hnc
                  go_wp2
                  go_ret
                  exact ⟨rfl, HB⟩
/-! ### THE ROW's STEP: WRITTEN OUT: LEAVE IT -/
set_option maxRecDepth 100000 in
theorem lifted (os : Os) (started : os.Started) (H : Type) (enc : TypeId × Value → H) :
    ReturnsInHanded {} Yba.checked os 3 .any (Rows.lawS4988BModelSpec.pre6 enc Yba.prog Yba.f3 Rows.lawS4988BModelRow.domain false) (Rows.lawS4988BModelSpec.post enc Yba.prog Yba.f3 false true false false) := by
  refine returnsInHanded_of_change (C := Yba.checked) own started (by kernel_rfl) Yba.func3
    (ChangeSpec.witness6 (enc := enc) (C := Yba.checked) false ⟨#[], #[.string ByteArray.empty, .slice none 0 0, .int .u64 0, .int .u8 0, .int .u8 0, .bool false], []⟩ 8 (by kernel_rfl) (by kernel_rfl) (by kernel_rfl) (by kernel_rfl)) ?_
  intro W base args ds gs before hval0 hW hcnd _
  have hval : ∀ (j : Nat) t v, Yba.f3.params[j]? = some t → args[j]? = some v → Value.okWide Yba.prog W .any base t v := hval0
  have hW' := hW
  obtain ⟨p, q, hA0, hV, rfl, hfz, hnd⟩ := hW
  have hA : DataW.TrodAll enc Yba.prog W 0 (fun _ => true) true Yba.f3.params.toList args.toList ds p := hA0
  rw [Yba.params3] at hA hval
  obtain ⟨v0, vs0, d0, ds0, p0, q0, hargs, rfl, rfl, h0, r0⟩ := trodAll_cons hA
  obtain ⟨v1, vs1, d1, ds1, p1, q1, rfl, rfl, rfl, h1, r1⟩ := trodAll_cons r0
  obtain ⟨v2, vs2, d2, ds2, p2, q2, rfl, rfl, rfl, h2, r2⟩ := trodAll_cons r1
  obtain ⟨v3, vs3, d3, ds3, p3, q3, rfl, rfl, rfl, h3, r3⟩ := trodAll_cons r2
  obtain ⟨v4, vs4, d4, ds4, p4, q4, rfl, rfl, rfl, h4, r4⟩ := trodAll_cons r3
  obtain ⟨v5, vs5, d5, ds5, p5, q5, rfl, rfl, rfl, h5, r5⟩ := trodAll_cons r4
  obtain ⟨rfl, rfl, rfl⟩ := trodAll_nil r5
  obtain rfl : args = #[v0, v1, v2, v3, v4, v5] := by cases args; simp_all
  obtain ⟨rfl, rfl⟩ := trodVars_none hV
  obtain ⟨a0, rfl, rfl, rfl, w0⟩ := open_string Yba.underlying9 (hval 0 9 v0 rfl rfl) h0
  obtain ⟨a1, len1, cap1, rfl⟩ := okWide_slice Yba.underlying22 (hval 1 22 v1 rfl rfl)
  have k1 := h1
  have lt1 : ∀ x ∈ p1, x.block < W.heap.size := by obtain ⟨m, hm⟩ := k1; exact DataW.trod_lt m _ _ _ hm
  obtain ⟨z1, w1⟩ : ∃ zs, IsRow .u8 W a1 len1 cap1 zs := by
    obtain ⟨fuel, hf⟩ := h1
    rcases open_ints Yba.underlying22 Yba.underlying5 (by kernel_rfl) hf with ⟨hcs, _⟩ | ⟨x, l, c, zs, hcs, _, hl, hm, hz, _, hcell, hwz⟩
    · simp [Value.cells] at hcs
      obtain ⟨rfl, rfl, rfl⟩ := hcs
      exact ⟨[], .inl ⟨rfl, rfl, rfl, rfl⟩⟩
    · simp [Value.cells] at hcs
      obtain ⟨rfl, rfl, rfl⟩ := hcs
      exact ⟨zs, .inr ⟨_, rfl, hl, hm, by simpa using hz, hcell, hwz⟩⟩
  obtain ⟨a2, rfl, rfl, rfl, w2⟩ := open_int Yba.underlying23 (hval 2 23 v2 rfl rfl) h2
  obtain ⟨a3, rfl, rfl, rfl, w3⟩ := open_int Yba.underlying5 (hval 3 5 v3 rfl rfl) h3
  obtain ⟨a4, rfl, rfl, rfl, w4⟩ := open_int Yba.underlying5 (hval 4 5 v4 rfl rfl) h4
  obtain ⟨a5, rfl, rfl, rfl⟩ := open_bool Yba.underlying4 (hval 5 4 v5 rfl rfl) h5
  clear hA0 hval0
  refine (walk a0 a1 len1 cap1 z1 a2 a3 a4 a5 W w0 w1 w2 w3 w4).mono fun e W' ⟨he, bel⟩ => ?_
  subst he
  exact ⟨_, rfl, _, _, _, [], _, [], hW', trodAll_mk1 (shut_bool Yba.underlying4 _), (trodAll_cons_mk (shut_string Yba.underlying9 w0) (trodAll_cons_mk (Below.trod laidOut (by kernel_rfl) (of_decide_eq_true (by kernel_rfl)) k1 bel lt1) (trodAll_cons_mk (shut_int Yba.underlying23 w2) (trodAll_cons_mk (shut_int Yba.underlying5 w3) (trodAll_cons_mk (shut_int Yba.underlying5 w4) (trodAll_cons_mk (shut_bool Yba.underlying4 _) trodAll_mk0)))))), rfl, bel.frame _, fun h => by cases h⟩

theorem over : Rows.lawS4988BModelRow.holds Yba.pinned (OpenSpec.ofChange Rows.lawS4988BModelSpec) :=
  OpenClaim.holds_of_wide 3 Yba.f3 rfl rfl rfl rfl rfl rfl rfl ⟨rfl, rfl, rfl, rfl, rfl⟩ rfl rfl rfl rfl rfl (by kernel_rfl) Yba.func3 (by kernel_rfl)
    (of_decide_eq_true (by kernel_rfl)) (by unfold Func.isWrapper; first | (rw [if_pos (by decide +kernel)]; kernel_rfl) | (rw [if_neg (by decide +kernel)]; exact ⟨rfl, rfl⟩))
    (fun os started H enc _ => lifted os started H enc)

/-- ████ THE STATEMENT ████ -/
theorem proved : Rows.LawS4988BModelSaid := over
end Go.Proofs.Ybulkcygw.lawS4988BModel
