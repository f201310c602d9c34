/- checkFrame: which frames it refuses. fmt.Errorf by its stop, for every answer F of fmt's: the law asks only whether an error came back. -/
import Derived.Test.YbulkcyhyFmtFacts
import Derived.Test.YbulkcyhyFmtHas
import Derived.WalkKit
import Derived.ProofKit
import Derived.OpenShut
import Derived.WalkSpells
import Derived.Deep.QuietTactic
import Derived.BigQuiet
import Derived.Deep.RegionWith
namespace Go.Proofs.YbulkcyhyFmt.frame
open Go.RowKit Go.Extern.Stop Go.Stop Go.Extern
open Go.Proofs.YbulkcyhyFmt.facts Go.Proofs.YbulkcyhyFmt.has
set_option linter.unusedVariables false
attribute [local go_sem] call10 guardOk printedA printedB op9s op9q op3d ptr85 elem85

set_option maxHeartbeats 400000 in
theorem errorfA (F : Interp) (n : Nat) (p k : ByteArray) (w : World) (hF : F.answers w.tape) (hc0 : w.cell? ⟨n, 0, none⟩ = some (.iface 9 (.string p))) (hc1 : w.cell? ⟨n, 1, none⟩ = some (.iface 9 (.string k))) :
    Calls Ybaf.prog 8 #[.string fA, .slice (some ⟨n, 0, none⟩) 2 2] w fun e w' => ∃ s, e = .returned (.iface 85 (.pointer (some ⟨w.heap.size, 0, none⟩))) ∧ w' = (w.alloc (.cells #[.string s] 87)).drew := by
  have hF' := answers_open hF
  unfold fA
  go_enter Ybaf.func8, Ybaf.ntmps8
  go_wp2
  go_ret
  exact ⟨_, rfl, rfl⟩

set_option maxHeartbeats 400000 in
theorem errorfB (F : Interp) (n : Nat) (r : Int) (w : World) (hF : F.answers w.tape) (hc0 : w.cell? ⟨n, 0, none⟩ = some (.iface 3 (.int .i64 r))) :
    Calls Ybaf.prog 8 #[.string fB, .slice (some ⟨n, 0, none⟩) 1 1] w fun e w' => ∃ s, e = .returned (.iface 85 (.pointer (some ⟨w.heap.size, 0, none⟩))) ∧ w' = (w.alloc (.cells #[.string s] 87)).drew := by
  have hF' := answers_open hF
  unfold fB
  go_enter Ybaf.func8, Ybaf.ntmps8
  go_wp2
  go_ret
  exact ⟨_, rfl, rfl⟩

/-- The frame as a value. -/
def frameV (seq ack fr : Int) (kind : ByteArray) (round value : Int) (no bye : Bool) : Value :=
  .agg #[.int .u64 seq, .int .u64 ack, .int .i64 fr, .string kind, .int .i64 round, .int .i64 value, .bool no, .bool bye]

theorem contains_q (a : Option Addr) (len cap : Nat) (ss : List ByteArray) (k : ByteArray) (w : World) (hl : len ≤ 1024) (hr : Reads w a len ss) :
    Calls Ybaf.prog 7 #[.slice a len cap, .string k] w fun e w' => e = .returned (.bool (hasB ss k len)) ∧ w' = w :=
  (contains_any a len cap ss k w hl hr).mono fun e w' ⟨h1, h2⟩ => ⟨h1, h2.symm⟩

theorem bel_drewN {B n : Nat} {a w : World} (h : Below B a w) : Below B a (w.drewN n) := ⟨h.os, h.tape, h.output, h.size, h.block⟩

theorem bel_alloc {a w : World} (h : Below a.heap.size a w) (o : Obj) : Below a.heap.size a (w.alloc o) := h.alloc h.size o

theorem reads_alloc {w : World} {a : Option Addr} {len : Nat} {ss : List ByteArray} (h : Reads w a len ss) (o : Obj) : Reads (w.alloc o) a len ss := fun i hi => by
  obtain ⟨b, off, e, hc⟩ := h i hi
  exact ⟨b, off, e, by rw [World.cell?_alloc_lt _ _ _ (World.block_lt_of_cell? _ _ hc)]; exact hc⟩
theorem reads_drewN {w : World} {a : Option Addr} {len : Nat} {ss : List ByteArray} (h : Reads w a len ss) (n : Nat) : Reads (w.drewN n) a len ss := h

/-- The message is the zero one. -/
def Zero (fr : Int) (kind : ByteArray) (round value : Int) (no : Bool) : Prop := fr = 0 ∧ kind.toList = [] ∧ round = 0 ∧ value = 0 ∧ no = false

set_option maxHeartbeats 1000000 in
/-- A heartbeat that carries a part of a message: refused. -/
theorem cf_beat (b : Nat) (ack fr : Int) (kind : ByteArray) (round value : Int) (no bye : Bool) (w : World) (hz : Hid (¬ Zero fr kind round value no)) :
    Calls Ybaf.prog 4 #[.pointer (some ⟨b, 0, none⟩), frameV 0 ack fr kind round value no bye] w fun e w' => ∃ u x, e = .returned (.iface u x) ∧ Below w.heap.size w w' := by
  unfold frameV
  go_enter Ybaf.func4, Ybaf.ntmps4
  go_wp2
  all_goals first
    | exact absurd (show Zero fr kind round value no from ⟨by assumption, by assumption, by assumption, by assumption, by simpa using ‹¬ no = true›⟩) hz.out
    | (go_ret; exact ⟨_, _, rfl, ((Below.refl _ _).alloc (Nat.le_refl _) _).alloc (by simp) _⟩)

set_option maxHeartbeats 1000000 in
/-- A heartbeat that carries nothing: let through. -/
theorem cf_bare (b : Nat) (ack : Int) (bye : Bool) (w : World) :
    Calls Ybaf.prog 4 #[.pointer (some ⟨b, 0, none⟩), frameV 0 ack 0 ⟨#[]⟩ 0 0 false bye] w fun e w' => e = .returned .nilIface ∧ Below w.heap.size w w' := by
  unfold frameV
  go_enter Ybaf.func4, Ybaf.ntmps4
  go_wp2
  go_quiet (fail)
  go_wp2
  go_ret
  exact ⟨rfl, bel_drewN ((Below.refl _ _).alloc (Nat.le_refl _) _)⟩

set_option maxHeartbeats 1000000 in
/-- A message of a kind that is not listed: refused. -/
theorem cf_kind (F : Interp) (b : Nat) (seq ack fr : Int) (kind : ByteArray) (round value : Int) (no bye : Bool) (a : Option Addr) (len cap : Nat) (ss : List ByteArray) (p : ByteArray) (w : World)
    (hF : F.answers w.tape) (hs : 0 < seq) (hl : len ≤ 1024) (hb : b < w.heap.size) (hk : w.cell? ⟨b, 19, none⟩ = some (.slice a len cap)) (hp : w.cell? ⟨b, 13, none⟩ = some (.string p)) (hr : Reads w a len ss) (hh : hasB ss kind len = false) :
    Calls Ybaf.prog 4 #[.pointer (some ⟨b, 0, none⟩), frameV seq ack fr kind round value no bye] w fun e w' => ∃ u x, e = .returned (.iface u x) ∧ Below w.heap.size w w' := by
  unfold frameV
  have hr1 : Hid (∀ (o : Obj) (n : Nat), Reads ((w.alloc o).drewN n) a len ss) := fun o n => reads_drewN (reads_alloc hr o) n
  have hb1 : b < w.heap.size + 1 := by omega
  clear hr
  go_enter Ybaf.func4, Ybaf.ntmps4
  go_wp2
  go_quiet ((go_at_call 7; exact Calls.quiet_of_same (contains_q a len cap ss kind _ hl (hr1.out _ _))))
  go_wp2
  go_region_with (go_at_call 8; refine (errorfA F _ p kind _ ?_ ?_ ?_).mono ?_; (show F.answers w.tape; exact hF); (rw [World.cell?_alloc_at _ _ _ _ (by simp)]; rfl); (rw [World.cell?_alloc_at _ _ _ _ (by simp)]; rfl); rintro e w' ⟨s, rfl, rfl⟩)
  all_goals go_wp2
  all_goals go_ret
  all_goals exact ⟨_, _, rfl, by repeat (first | exact Below.refl _ _ | apply Below.drew | apply bel_drewN | apply bel_alloc)⟩

set_option maxHeartbeats 1000000 in
/-- A message of a listed kind, its round below 0: refused. -/
theorem cf_round (F : Interp) (b : Nat) (seq ack fr : Int) (kind : ByteArray) (round value : Int) (no bye : Bool) (a : Option Addr) (len cap : Nat) (ss : List ByteArray) (w : World)
    (hF : F.answers w.tape) (hs : 0 < seq) (hl : len ≤ 1024) (hb : b < w.heap.size) (hk : w.cell? ⟨b, 19, none⟩ = some (.slice a len cap)) (hr : Reads w a len ss) (hh : hasB ss kind len = true) (hn : round < 0) :
    Calls Ybaf.prog 4 #[.pointer (some ⟨b, 0, none⟩), frameV seq ack fr kind round value no bye] w fun e w' => ∃ u x, e = .returned (.iface u x) ∧ Below w.heap.size w w' := by
  unfold frameV
  have hr1 : Hid (∀ (o : Obj) (n : Nat), Reads ((w.alloc o).drewN n) a len ss) := fun o n => reads_drewN (reads_alloc hr o) n
  have hb1 : b < w.heap.size + 1 := by omega
  clear hr
  go_enter Ybaf.func4, Ybaf.ntmps4
  go_wp2
  go_quiet ((go_at_call 7; exact Calls.quiet_of_same (contains_q a len cap ss kind _ hl (hr1.out _ _))))
  go_wp2_with (go_at_call 8; refine (errorfB F _ round _ ?_ ?_).mono ?_; (show F.answers w.tape; exact hF); (rw [World.cell?_alloc_at _ _ _ _ (by simp)]; rfl); rintro e w' ⟨s, rfl, rfl⟩)
  all_goals go_ret
  all_goals exact ⟨_, _, rfl, by repeat (first | exact Below.refl _ _ | apply Below.drew | apply bel_drewN | apply bel_alloc)⟩

set_option maxHeartbeats 1000000 in
/-- A message of a listed kind, its round 0 or more: let through. -/
theorem cf_ok (b : Nat) (seq ack fr : Int) (kind : ByteArray) (round value : Int) (no bye : Bool) (a : Option Addr) (len cap : Nat) (ss : List ByteArray) (w : World)
    (hs : 0 < seq) (hl : len ≤ 1024) (hb : b < w.heap.size) (hk : w.cell? ⟨b, 19, none⟩ = some (.slice a len cap)) (hr : Reads w a len ss) (hh : hasB ss kind len = true) (hn : 0 ≤ round) :
    Calls Ybaf.prog 4 #[.pointer (some ⟨b, 0, none⟩), frameV seq ack fr kind round value no bye] w fun e w' => e = .returned .nilIface ∧ Below w.heap.size w w' := by
  unfold frameV
  have hr1 : Hid (∀ (o : Obj) (n : Nat), Reads ((w.alloc o).drewN n) a len ss) := fun o n => reads_drewN (reads_alloc hr o) n
  have hb1 : b < w.heap.size + 1 := by omega
  clear hr
  go_enter Ybaf.func4, Ybaf.ntmps4
  go_wp2
  go_quiet ((go_at_call 7; exact Calls.quiet_of_same (contains_q a len cap ss kind _ hl (hr1.out _ _))))
  go_wp2
  go_ret
  exact ⟨rfl, by repeat (first | exact Below.refl _ _ | apply Below.drew | apply bel_drewN | apply bel_alloc)⟩
end Go.Proofs.YbulkcyhyFmt.frame
