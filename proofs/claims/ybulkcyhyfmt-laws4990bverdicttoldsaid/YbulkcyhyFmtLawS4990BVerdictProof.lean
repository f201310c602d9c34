/- The told card of 'LawS4990BVerdict': the law's walk by its fifteen ways, the row's step and the card by the kit's builder. -/
import Derived.Test.YbulkcyhyFmtWalkA
import Derived.Test.YbulkcyhyFmtWalkB
import Derived.Test.YbulkcyhyFmtWalkC
import Derived.SliceStrings
import Derived.ShutString
import Derived.SizedLaws
import Derived.Stop.JoinedTold
import Derived.SevenToldRow
namespace Go.Proofs.YbulkcyhyFmt.lawS4990BVerdict
open Go.ChangeShapes Go.WideShapes Go.ChangeAt Go.RowKit
open Go.ChangeMaps (open_string shut_string)
open Go.Extern.Stop Go.Stop Go.Extern
open Go.Proofs.YbulkcyhyFmt.has Go.Proofs.YbulkcyhyFmt.frame Go.Proofs.YbulkcyhyFmt.walk
set_option linter.unusedVariables false

theorem own : ownKnob Ybaf.prog.godebug = none := by kernel_rfl
theorem laidOut : laidOutB Ybaf.prog = true := by kernel_rfl

theorem long_walk (a0 a1 a2 : Int) (a3 : ByteArray) (a4 a5 : Int) (a6 a7 : Bool) (a8 : Option Addr) (len cap : Nat) (a9 : ByteArray) (a10 : Bool) (a11 : Int) (w : World) (hl : 1024 < len) (hm : len ≤ maxLen) :
    Calls Ybaf.prog 3 #[.int .u64 a0, .int .u64 a1, .int .i64 a2, .string a3, .int .i64 a4, .int .i64 a5, .bool a6, .bool a7, .slice a8 len cap, .string a9, .bool a10, .int .u8 a11] w fun e w' =>
      e = .returned (.bool true) ∧ Below w.heap.size w w' := by
  have g0 : 1024 < (len : Int) := by omega
  unfold maxLen at hm
  go_enter Ybaf.func3, Ybaf.ntmps3
  go_wp2
  go_ret
  exact ⟨rfl, Below.refl _ _⟩

theorem walk (F : Interp) (a0 a1 a2 : Int) (a3 : ByteArray) (a4 a5 : Int) (a6 a7 : Bool) (a8 : Option Addr) (len cap : Nat) (ss : List ByteArray) (a9 : ByteArray) (a10 : Bool) (a11 : Int) (w : World)
    (hF : F.answers w.tape) (w0 : 0 ≤ a0) (w11 : 0 ≤ a11 ∧ a11 ≤ 255) (hm : len ≤ maxLen) (hr : Reads w a8 len ss) :
    Calls Ybaf.prog 3 #[.int .u64 a0, .int .u64 a1, .int .i64 a2, .string a3, .int .i64 a4, .int .i64 a5, .bool a6, .bool a7, .slice a8 len cap, .string a9, .bool a10, .int .u8 a11] w fun e w' =>
      e = .returned (.bool true) ∧ Below w.heap.size w w' := by
  by_cases g0 : 1024 < len
  · exact long_walk a0 a1 a2 a3 a4 a5 a6 a7 a8 len cap a9 a10 a11 w g0 hm
  have hl : len ≤ 1024 := by omega
  cases a10 with
  | false =>
    by_cases hs : a0 = 0
    · by_cases hz : Zero a2 a3 a4 a5 a6
      · exact plain_bare F a0 a1 a2 a3 a4 a5 a6 a7 a8 len cap ss a9 a11 w hF w0 w11 hl hr hs hz
      · exact plain_beat F a0 a1 a2 a3 a4 a5 a6 a7 a8 len cap ss a9 a11 w hF w0 w11 hl hr hs hz
    · have hs1 : 0 < a0 := by omega
      cases hh : hasB ss a3 len with
      | false => exact plain_kind F a0 a1 a2 a3 a4 a5 a6 a7 a8 len cap ss a9 a11 w hF w0 w11 hl hr hs1 hh
      | true =>
        by_cases hn : a4 < 0
        · exact plain_round F a0 a1 a2 a3 a4 a5 a6 a7 a8 len cap ss a9 a11 w hF w0 w11 hl hr hs1 hh hn
        · exact plain_ok F a0 a1 a2 a3 a4 a5 a6 a7 a8 len cap ss a9 a11 w hF w0 w11 hl hr hs1 hh (by omega)
  | true =>
    by_cases h0 : len = 0
    · by_cases hs : a0 = 0
      · by_cases hz : Zero a2 a3 a4 a5 a6
        · exact empty_bare F a0 a1 a2 a3 a4 a5 a6 a7 a8 len cap ss a9 a11 w hF w0 w11 hl hr h0 hs hz
        · exact empty_beat F a0 a1 a2 a3 a4 a5 a6 a7 a8 len cap ss a9 a11 w hF w0 w11 hl hr h0 hs hz
      · have hs1 : 0 < a0 := by omega
        cases hh : hasB ss a3 len with
        | false => exact empty_kind F a0 a1 a2 a3 a4 a5 a6 a7 a8 len cap ss a9 a11 w hF w0 w11 hl hr h0 hs1 hh
        | true =>
          by_cases hn : a4 < 0
          · exact empty_round F a0 a1 a2 a3 a4 a5 a6 a7 a8 len cap ss a9 a11 w hF w0 w11 hl hr h0 hs1 hh hn
          · exact empty_ok F a0 a1 a2 a3 a4 a5 a6 a7 a8 len cap ss a9 a11 w hF w0 w11 hl hr h0 hs1 hh (by omega)
    · have hp : 0 < len := by omega
      obtain ⟨j, hj, hjl⟩ := pick_of a11 len w11.1 hp
      obtain ⟨b, off, ha, hc⟩ := hr j hjl
      obtain ⟨s, hs0⟩ : ∃ s, s = ss.getD j ByteArray.empty := ⟨_, rfl⟩
      rw [← hs0] at hc
      by_cases hs : a0 = 0
      · by_cases hz : Zero a2 s a4 a5 a6
        · exact pick_bare F a0 a1 a2 a3 a4 a5 a6 a7 a8 len cap ss a9 a11 w hF w0 w11 hl hr b off j s hp ha hj hjl hc hs hz
        · exact pick_beat F a0 a1 a2 a3 a4 a5 a6 a7 a8 len cap ss a9 a11 w hF w0 w11 hl hr b off j s hp ha hj hjl hc hs hz
      · have hs1 : 0 < a0 := by omega
        cases hh : hasB ss s len with
        | false => exact pick_kind F a0 a1 a2 a3 a4 a5 a6 a7 a8 len cap ss a9 a11 w hF w0 w11 hl hr b off j s hp ha hj hjl hc hs1 hh
        | true =>
          by_cases hn : a4 < 0
          · exact pick_round F a0 a1 a2 a3 a4 a5 a6 a7 a8 len cap ss a9 a11 w hF w0 w11 hl hr b off j s hp ha hj hjl hc hs1 hh hn
          · exact pick_ok F a0 a1 a2 a3 a4 a5 a6 a7 a8 len cap ss a9 a11 w hF w0 w11 hl hr b off j s hp ha hj hjl hc hs1 hh (by omega)

set_option maxRecDepth 100000 in
theorem lifted (os : Os) (started : os.Started) (H : Type) (enc : TypeId × Value → H) :
    ReturnsInTold none {} Ybaf.checked os 3 .any Input.okWide ((OpenSpec.ofChange Rows.lawS4990BVerdictSpec).preRow enc Ybaf.prog Ybaf.f3 [] false []) (fun F => ((OpenSpec.ofChange Rows.lawS4990BVerdictSpec).at F).post enc Ybaf.prog Ybaf.f3 false true false false) (aloneAtReturn Ybaf.prog) nothingAlways := by
  refine returnsInTold_of_row (C := Ybaf.checked) (s := OpenSpec.ofChange Rows.lawS4990BVerdictSpec) (by kernel_rfl) own started (by kernel_rfl) Ybaf.func3
    (OpenSpec.witness_stopped (enc := enc) (C := Ybaf.checked) false ⟨#[], #[.int .u64 0, .int .u64 0, .int .i64 0, .string ByteArray.empty, .int .i64 0, .int .i64 0, .bool false, .bool false, .slice none 0 0, .string ByteArray.empty, .bool false, .int .u8 0], []⟩ 8 (by kernel_rfl) (by kernel_rfl) (by kernel_rfl) (by kernel_rfl)) ?_
  intro F W base args ds gs before _ hF hval0 hW _ _ _ _ _
  have hval : ∀ (j : Nat) t v, Ybaf.f3.params[j]? = some t → args[j]? = some v → Value.okWide Ybaf.prog W .any base t v := hval0
  have hW' := hW
  obtain ⟨p, q, hA0, hV, rfl, hfz, hnd⟩ := hW
  have hA : DataW.TrodAll enc Ybaf.prog W 0 (fun _ => true) true Ybaf.f3.params.toList args.toList ds p := hA0
  rw [Ybaf.params3] at hA hval
  obtain ⟨v0, vs0, d0, ds0, p0, q0, hargs, rfl, rfl, h0, r0⟩ := trodAll_cons hA
  obtain ⟨v1, vs1, d1, ds1, p1, q1, rfl, rfl, rfl, h1, r1⟩ := trodAll_cons r0
  obtain ⟨v2, vs2, d2, ds2, p2, q2, rfl, rfl, rfl, h2, r2⟩ := trodAll_cons r1
  obtain ⟨v3, vs3, d3, ds3, p3, q3, rfl, rfl, rfl, h3, r3⟩ := trodAll_cons r2
  obtain ⟨v4, vs4, d4, ds4, p4, q4, rfl, rfl, rfl, h4, r4⟩ := trodAll_cons r3
  obtain ⟨v5, vs5, d5, ds5, p5, q5, rfl, rfl, rfl, h5, r5⟩ := trodAll_cons r4
  obtain ⟨v6, vs6, d6, ds6, p6, q6, rfl, rfl, rfl, h6, r6⟩ := trodAll_cons r5
  obtain ⟨v7, vs7, d7, ds7, p7, q7, rfl, rfl, rfl, h7, r7⟩ := trodAll_cons r6
  obtain ⟨v8, vs8, d8, ds8, p8, q8, rfl, rfl, rfl, h8, r8⟩ := trodAll_cons r7
  obtain ⟨v9, vs9, d9, ds9, p9, q9, rfl, rfl, rfl, h9, r9⟩ := trodAll_cons r8
  obtain ⟨v10, vs10, d10, ds10, p10, q10, rfl, rfl, rfl, h10, r10⟩ := trodAll_cons r9
  obtain ⟨v11, vs11, d11, ds11, p11, q11, rfl, rfl, rfl, h11, r11⟩ := trodAll_cons r10
  obtain ⟨rfl, rfl, rfl⟩ := trodAll_nil r11
  obtain rfl : args = #[v0, v1, v2, v3, v4, v5, v6, v7, v8, v9, v10, v11] := by cases args; simp_all
  obtain ⟨rfl, rfl⟩ := trodVars_none hV
  obtain ⟨a0, rfl, rfl, rfl, w0⟩ := open_int Ybaf.underlying22 (hval 0 22 v0 rfl rfl) h0
  obtain ⟨a1, rfl, rfl, rfl, w1⟩ := open_int Ybaf.underlying22 (hval 1 22 v1 rfl rfl) h1
  obtain ⟨a2, rfl, rfl, rfl, w2⟩ := open_int Ybaf.underlying3 (hval 2 3 v2 rfl rfl) h2
  obtain ⟨a3, rfl, rfl, rfl, w3⟩ := open_string Ybaf.underlying9 (hval 3 9 v3 rfl rfl) h3
  obtain ⟨a4, rfl, rfl, rfl, w4⟩ := open_int Ybaf.underlying3 (hval 4 3 v4 rfl rfl) h4
  obtain ⟨a5, rfl, rfl, rfl, w5⟩ := open_int Ybaf.underlying3 (hval 5 3 v5 rfl rfl) h5
  obtain ⟨a6, rfl, rfl, rfl⟩ := open_bool Ybaf.underlying4 (hval 6 4 v6 rfl rfl) h6
  obtain ⟨a7, rfl, rfl, rfl⟩ := open_bool Ybaf.underlying4 (hval 7 4 v7 rfl rfl) h7
  obtain ⟨a8, len8, cap8, rfl⟩ := okWide_slice Ybaf.underlying23 (hval 8 23 v8 rfl rfl)
  have k8 := h8
  have lt8 : ∀ x ∈ p8, x.block < W.heap.size := by obtain ⟨m, hm⟩ := k8; exact DataW.trod_lt m _ _ _ hm
  obtain ⟨ss, hm8, w8⟩ : ∃ ss, len8 ≤ maxLen ∧ Reads W a8 len8 ss := by
    obtain ⟨fuel, hf⟩ := h8
    rcases open_strings Ybaf.underlying23 Ybaf.underlying9 (by kernel_rfl) hf with ⟨hcs, _⟩ | ⟨x, l, c, ss, hcs, _, hl, hm, hz, _, hcell, hws⟩
    · simp [Value.cells] at hcs
      obtain ⟨rfl, rfl, rfl⟩ := hcs
      exact ⟨[], Nat.zero_le _, fun i hi => by omega⟩
    · simp [Value.cells] at hcs
      obtain ⟨rfl, rfl, rfl⟩ := hcs
      simp only [if_true] at hz
      refine ⟨ss, by omega, fun i hi => ?_⟩
      obtain ⟨b, off, spot⟩ := x
      have hc := hcell i (by omega)
      have hc0 := hcell 0 (by omega)
      have hspot : spot = none := by simpa [Addr.add] using World.cell?_spot hc0
      subst hspot
      exact ⟨b, off, rfl, by rw [← Go.WideShapes.add_plain]; exact hc⟩
  obtain ⟨a9, rfl, rfl, rfl, w9⟩ := open_string Ybaf.underlying9 (hval 9 9 v9 rfl rfl) h9
  obtain ⟨a10, rfl, rfl, rfl⟩ := open_bool Ybaf.underlying4 (hval 10 4 v10 rfl rfl) h10
  obtain ⟨a11, rfl, rfl, rfl, w11⟩ := open_int Ybaf.underlying5 (hval 11 5 v11 rfl rfl) h11
  clear hA0 hval0
  refine (walk F.told a0 a1 a2 a3 a4 a5 a6 a7 a8 len8 cap8 ss a9 a10 a11 W hF (bounds_u64 w0).1 (bounds_u8 w11) hm8 w8).mono fun e W' ⟨he, bel⟩ => ?_
  subst he
  exact ⟨_, rfl, _, _, _, [], _, [], hW', trodAll_mk1 (shut_bool Ybaf.underlying4 _), (trodAll_cons_mk (shut_int Ybaf.underlying22 w0) (trodAll_cons_mk (shut_int Ybaf.underlying22 w1) (trodAll_cons_mk (shut_int Ybaf.underlying3 w2) (trodAll_cons_mk (shut_string Ybaf.underlying9 w3) (trodAll_cons_mk (shut_int Ybaf.underlying3 w4) (trodAll_cons_mk (shut_int Ybaf.underlying3 w5) (trodAll_cons_mk (shut_bool Ybaf.underlying4 _) (trodAll_cons_mk (shut_bool Ybaf.underlying4 _) (trodAll_cons_mk (Below.trod laidOut (by kernel_rfl) (of_decide_eq_true (by kernel_rfl)) k8 bel lt8) (trodAll_cons_mk (shut_string Ybaf.underlying9 w9) (trodAll_cons_mk (shut_bool Ybaf.underlying4 _) (trodAll_cons_mk (shut_int Ybaf.underlying5 w11) trodAll_mk0)))))))))))), rfl, bel.frame _, fun h => by cases h⟩

theorem stopsAre : Ybaf.pinned.checked.prog.stops = ["fmt.errorf"] := by kernel_rfl
theorem stopKnobsAre : Ybaf.pinned.checked.prog.stopKnobs = [] := by kernel_rfl
theorem quietAt (os : Os) : Stop.quiet Ybaf.pinned.checked.prog os := by
  intro k hk
  rw [stopKnobsAre] at hk
  cases hk

theorem proved : Rows.LawS4990BVerdictToldSaid :=
  Claim7.holds_of_told_any 3 Ybaf.f3 "fmt.errorf" [] [] _ _ _ (by kernel_rfl) rfl rfl rfl laidOut (by kernel_rfl) rfl ⟨rfl, rfl, rfl, rfl, rfl, rfl, rfl⟩ rfl rfl (by kernel_rfl) (by kernel_rfl) Ybaf.func3 (by kernel_rfl)
    (of_decide_eq_true (by kernel_rfl)) (of_decide_eq_true (by kernel_rfl)) stopsAre.symm rfl stopKnobsAre.symm (by kernel_rfl)
    (by kernel_rfl) (by kernel_rfl) (by kernel_rfl) (by kernel_rfl) (by kernel_rfl) (by kernel_rfl) (by kernel_rfl) (by kernel_rfl) (by kernel_rfl) rfl (by kernel_rfl) rfl rfl
    rfl rfl
    rfl (by kernel_rfl) (by kernel_rfl) (by kernel_rfl) (by decide) (by kernel_rfl)
    (OpenClaim.moreEntering_of (by kernel_rfl) (by kernel_rfl) (by kernel_rfl) (by kernel_rfl) (by kernel_rfl) (by kernel_rfl) (by kernel_rfl) (by kernel_rfl) (by kernel_rfl) (by kernel_rfl))
    ⟨_, WideRow.started_initial, quietAt _⟩
    (fun os started _ H enc _ => lifted os started H enc)
end Go.Proofs.YbulkcyhyFmt.lawS4990BVerdict
