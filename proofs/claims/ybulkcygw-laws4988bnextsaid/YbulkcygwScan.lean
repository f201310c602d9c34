import Derived.Test.YbulkcygwRows
import Derived.Test.YbulkcygwPlain
import Derived.WalkKit
import Derived.ProofKit
import Derived.OpenShut
import Derived.ShutString
import Derived.ChangeOld
import Derived.Below
import Derived.WalkSpells
import Derived.Deep.LoopGhost
import Derived.Deep.QuietTactic
import Derived.BigQuiet
namespace Go.Proofs.Ybulkcygw.scan
open Go.ChangeShapes Go.WideShapes Go.ChangeAt Go.RowKit
open Go.Proofs.Ybulkcygw.plain
set_option linter.unusedVariables false

/-- The world behind: of the scanner in block b the cell of 'pos' alone has turned; it now holds q. -/
structure Mv (b : Nat) (w w' : World) (q : Nat) : Prop where
  os : w'.os = w.os
  tape : w'.tape = w.tape
  output : w'.output = w.output
  size : w'.heap.size = w.heap.size
  block : ∀ k, k ≠ b → w'.heap[k]? = w.heap[k]?
  pos : w'.cell? ⟨b, 1, none⟩ = some (.int .i64 q)
  other : ∀ o, o ≠ 1 → w'.cell? ⟨b, o, none⟩ = w.cell? ⟨b, o, none⟩
  frozen : ∀ o, w'.frozen? ⟨b, o, none⟩ = w.frozen? ⟨b, o, none⟩

theorem Mv.refl {b : Nat} {w : World} {q : Nat} (h : w.cell? ⟨b, 1, none⟩ = some (.int .i64 q)) : Mv b w w q :=
  ⟨rfl, rfl, rfl, rfl, fun _ _ => rfl, h, fun _ _ => rfl, fun _ => rfl⟩

theorem Mv.drewN {b : Nat} {w w' : World} {q : Nat} (h : Mv b w w' q) (n : Nat) : Mv b w (w'.drewN n) q :=
  ⟨h.os, h.tape, h.output, h.size, h.block, h.pos, h.other, h.frozen⟩

theorem Mv.drew {b : Nat} {w w' : World} {q : Nat} (h : Mv b w w' q) : Mv b w w'.drew q :=
  ⟨h.os, h.tape, h.output, h.size, h.block, h.pos, h.other, h.frozen⟩

theorem Mv.set {b : Nat} {w w' : World} {q : Nat} (h : Mv b w w' q) (r : Nat) : Mv b w (w'.setCell ⟨b, 1, none⟩ (.int .i64 r)) r := by
  refine ⟨h.os, h.tape, h.output, by simpa using h.size, fun k hk => ?_, World.cell?_setCell_same _ _ _ h.pos, fun o ho => ?_, fun o => ?_⟩
  · rw [Below.heap_setCell _ _ _ _ hk]; exact h.block k hk
  · rw [World.cell?_setCell_other _ _ _ _ (by intro e; injection e with e1 e2; exact ho e2.symm)]; exact h.other o ho
  · rw [World.frozen?_setCell]; exact h.frozen o

theorem Mv.below {b : Nat} {w w' : World} {q B : Nat} (h : Mv b w w' q) (hB : B ≤ b) : Below B w w' :=
  ⟨h.os, h.tape, h.output, by rw [h.size]; exact Nat.le_refl _, fun k hk => h.block k (by omega)⟩

theorem ret2 {a a' : Int} {c c' : Bool} (h : a = a') (k : c = c') : Ending.returned (.tuple #[.int .u8 a, .bool c]) = .returned (.tuple #[.int .u8 a', .bool c']) := by rw [h, k]

/-- A text indexed by a natural number's successor, in the form that the walk shows. -/
theorem idx_succ (src : ByteArray) (q : Nat) (h : q + 1 < src.size) (w : World) :
    (Instr.index 9 (.string src) (.int .i64 ((q : Int) + 1))).run Yba.prog w = .ok (.int .u8 ((src[q + 1]'h).toNat : Int)) w := by
  rw [run_index_string w 9 src .i64 _ Yba.underlying9, dif_pos ⟨by omega, by omega⟩]
  have e : ((q : Int) + 1).toNat = q + 1 := by omega
  simp only [e]

theorem done_any (b : Nat) (src : ByteArray) (p : Int) (w : World) (hs : w.cell? ⟨b, 0, none⟩ = some (.string src)) (hp : w.cell? ⟨b, 1, none⟩ = some (.int .i64 p)) :
    Calls Yba.prog 9 #[.pointer (some ⟨b, 0, none⟩)] w fun e w' => e = .returned (.bool (p == (src.size : Int))) ∧ w' = w.drew := by
  go_enter Yba.func9, Yba.ntmps9
  go_wp2
  go_region
  go_wp2
  all_goals go_ret
  all_goals exact ⟨rfl, rfl⟩

set_option maxHeartbeats 1000000 in
theorem peek_any (b : Nat) (src : ByteArray) (p : Nat) (w : World) (hsz : src.size ≤ 9000000000000000000) (hps : p ≤ src.size)
    (hs : w.cell? ⟨b, 0, none⟩ = some (.string src)) (hp : w.cell? ⟨b, 1, none⟩ = some (.int .i64 p)) (hf : w.frozen? ⟨b, 1, none⟩ = false) :
    Calls Yba.prog 8 #[.pointer (some ⟨b, 0, none⟩)] w fun e w' => ∃ q : Nat, q ≤ src.size ∧ Run src p q ∧ ¬ cont src q ∧ Mv b w w' q ∧
      e = .returned (.tuple #[.int .u8 (byt src q), .bool (decide (q < src.size))]) := by
  go_enter Yba.func8, Yba.ntmps8
  go_wp2
  go_loopg [2] (src.size - p) (fun k c wr => ∃ q : Nat, q ≤ src.size ∧ k = src.size - q ∧ Run src p q ∧ Mv b w wr q)
  case atStart => exact ⟨p, hps, rfl, Run.refl _ _, Mv.refl hp⟩
  case round =>
    obtain ⟨q, hq, hk, hrun, hmv⟩ := hrel
    have c0 : wr.cell? ⟨b, 0, none⟩ = some (.string src) := (hmv.other 0 (by decide)).trans hs
    have c1 := hmv.pos
    have c2 : wr.frozen? ⟨b, 1, none⟩ = false := (hmv.frozen 1).trans hf
    by_cases hlt : q < src.size
    · have hd : ((q : Int) == (src.size : Int)) = false := by simp; omega
      have HB : Hid (byt src q = ((src[q]'hlt).toNat : Int)) := byt_eq hlt
      have HD : Hid (decide (q < src.size) = true) := decide_eq_true hlt
      by_cases h1 : ((src[q]'hlt).toNat : Int) = 92
      · have e1 : (((src[q]'hlt).toNat : Int) != 92) = false := by simp [h1]
        have hw1 : IntKind.i64.wrap ((q : Int) + 1) = (q : Int) + 1 := IntWalk.i64_in _ (by omega)
        by_cases h2 : q + 1 < src.size
        · have e2 : ((q : Int) + 1 == (src.size : Int)) = false := by simp; omega
          have hix := idx_succ src q h2
          have HB2 : Hid (byt src (q + 1) = ((src[q + 1]'h2).toNat : Int)) := byt_eq h2
          by_cases h3 : ((src[q + 1]'h2).toNat : Int) = 10
          · have e3 : (((src[q + 1]'h2).toNat : Int) != 10) = false := by simp [h3]
            have HC : Hid (cont src q) := ⟨h2, by rw [HB.out]; exact h1, by rw [HB2.out]; exact h3⟩
            clear h1 h3
            go_wp2_with (go_at_call 9; refine (done_any b src q _ ?_ ?_).mono ?_; exact c0; exact c1; rintro e w' ⟨rfl, rfl⟩)
            go_quiet (fail)
            go_wp2
            go_quiet (fail)
            go_wp2
            go_roundg (src.size - (q + 2))
            case measure => omega
            case rel => exact ⟨q + 2, by omega, rfl, hrun.step HC.out, (hmv.drewN _).set (q + 2)⟩
          · have e3 : (((src[q + 1]'h2).toNat : Int) != 10) = true := by simpa using h3
            have HC : Hid (¬ cont src q) := fun h => h3 (by rw [← HB2.out]; exact h.2.2)
            clear h1 h3
            go_wp2_with (go_at_call 9; refine (done_any b src q _ ?_ ?_).mono ?_; exact c0; exact c1; rintro e w' ⟨rfl, rfl⟩)
            go_quiet (fail)
            go_wp2
            go_quiet (fail)
            go_wp2
            go_ret2
            exact ⟨q, hq, hrun, HC.out, (hmv.drew.drewN _).drewN _, ret2 HB.out.symm HD.out.symm⟩
        · have e2 : ((q : Int) + 1 == (src.size : Int)) = true := by simp; omega
          have HC : Hid (¬ cont src q) := fun h => h2 h.1
          clear h1
          go_wp2_with (go_at_call 9; refine (done_any b src q _ ?_ ?_).mono ?_; exact c0; exact c1; rintro e w' ⟨rfl, rfl⟩)
          go_quiet (fail)
          go_wp2
          go_quiet (fail)
          go_wp2
          go_ret2
          exact ⟨q, hq, hrun, HC.out, (hmv.drew.drewN _).drewN _, ret2 HB.out.symm HD.out.symm⟩
      · have e1 : (((src[q]'hlt).toNat : Int) != 92) = true := by simpa using h1
        have HC : Hid (¬ cont src q) := fun h => h1 (by rw [← HB.out]; exact h.2.1)
        clear h1
        go_wp2_with (go_at_call 9; refine (done_any b src q _ ?_ ?_).mono ?_; exact c0; exact c1; rintro e w' ⟨rfl, rfl⟩)
        go_quiet (fail)
        go_wp2
        go_quiet (fail)
        go_wp2
        go_ret2
        exact ⟨q, hq, hrun, HC.out, (hmv.drew.drewN _).drewN _, ret2 HB.out.symm HD.out.symm⟩
    · have hd : ((q : Int) == (src.size : Int)) = true := by simp; omega
      have H : Hid (¬ cont src q) := fun h => hlt (by have := h.1; omega)
      have H2 : Hid (byt src q = 0) := by unfold Hid byt; rw [dif_neg hlt]
      go_wp2_with (go_at_call 9; refine (done_any b src q _ ?_ ?_).mono ?_; exact c0; exact c1; rintro e w' ⟨rfl, rfl⟩)
      go_ret2
      exact ⟨q, hq, hrun, H.out, hmv.drew, ret2 H2.out.symm (decide_eq_false hlt).symm⟩

set_option maxHeartbeats 400000 in
/-- accept: it stands behind the continuations, and one further where the byte there is the wanted one. -/
theorem accept_any (b : Nat) (src : ByteArray) (p : Nat) (want : Int) (w : World) (hsz : src.size ≤ 9000000000000000000) (hps : p ≤ src.size)
    (hs : w.cell? ⟨b, 0, none⟩ = some (.string src)) (hp : w.cell? ⟨b, 1, none⟩ = some (.int .i64 p)) (hf : w.frozen? ⟨b, 1, none⟩ = false) :
    Calls Yba.prog 6 #[.pointer (some ⟨b, 0, none⟩), .int .u8 want] w fun e w' => ∃ q : Nat, q ≤ src.size ∧ Run src p q ∧ ¬ cont src q ∧
      ((q < src.size ∧ byt src q = want ∧ Mv b w w' (q + 1) ∧ e = .returned (.bool true)) ∨ (¬ (q < src.size ∧ byt src q = want) ∧ Mv b w w' q ∧ e = .returned (.bool false))) := by
  go_enter Yba.func6, Yba.ntmps6
  go_wp2_with (go_at_call 8; refine (peek_any b src p _ hsz hps hs hp hf).mono ?_; rintro e w1 ⟨q, hq, hrun, hnc, hmv, rfl⟩; have c1 := hmv.pos; have c2 := (hmv.frozen 1).trans hf)
  · go_ret
    have h : (byt src q != want) = true := by assumption
    exact ⟨q, hq, hrun, hnc, .inr ⟨fun h' => by simp [h'.2] at h, hmv, rfl⟩⟩
  · go_ret
    have h1 : q < src.size := by assumption
    have h : (byt src q != want) = false := by assumption
    exact ⟨q, hq, hrun, hnc, .inl ⟨h1, by simpa using h, hmv.set (q + 1), rfl⟩⟩
  · go_ret
    have h : ¬ q < src.size := by first | assumption | omega
    exact ⟨q, hq, hrun, hnc, .inr ⟨fun h' => h h'.1, hmv, rfl⟩⟩

set_option maxHeartbeats 400000 in
/-- next: it reads the byte behind the continuations, where there is one. -/
theorem next_any (b : Nat) (src : ByteArray) (p : Nat) (w : World) (hsz : src.size ≤ 9000000000000000000) (hps : p ≤ src.size)
    (hs : w.cell? ⟨b, 0, none⟩ = some (.string src)) (hp : w.cell? ⟨b, 1, none⟩ = some (.int .i64 p)) (hf : w.frozen? ⟨b, 1, none⟩ = false) :
    Calls Yba.prog 7 #[.pointer (some ⟨b, 0, none⟩)] w fun e w' => ∃ q : Nat, q ≤ src.size ∧ Run src p q ∧ ¬ cont src q ∧
      ((q < src.size ∧ Mv b w w' (q + 1) ∧ e = .returned (.tuple #[.int .u8 (byt src q), .bool true])) ∨ (¬ q < src.size ∧ Mv b w w' q ∧ e = .returned (.tuple #[.int .u8 (byt src q), .bool false]))) := by
  go_enter Yba.func7, Yba.ntmps7
  go_wp2_with (go_at_call 8; refine (peek_any b src p _ hsz hps hs hp hf).mono ?_; rintro e w1 ⟨q, hq, hrun, hnc, hmv, rfl⟩; have c1 := hmv.pos; have c2 := (hmv.frozen 1).trans hf)
  · go_ret2
    have h1 : q < src.size := by assumption
    exact ⟨q, hq, hrun, hnc, .inl ⟨h1, hmv.set (q + 1), ret2 rfl (decide_eq_true h1)⟩⟩
  · go_ret2
    have h : ¬ q < src.size := by first | assumption | omega
    exact ⟨q, hq, hrun, hnc, .inr ⟨h, hmv, ret2 rfl (decide_eq_false h)⟩⟩
end Go.Proofs.Ybulkcygw.scan
