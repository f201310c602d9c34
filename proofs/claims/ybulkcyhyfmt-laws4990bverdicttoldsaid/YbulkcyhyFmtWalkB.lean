/- The law's walk, a listed kind asked for, none there. -/
import Derived.Test.YbulkcyhyFmtWalk0
namespace Go.Proofs.YbulkcyhyFmt.walk
open Go.RowKit Go.Extern.Stop Go.Stop Go.Extern
open Go.Proofs.YbulkcyhyFmt.facts Go.Proofs.YbulkcyhyFmt.has Go.Proofs.YbulkcyhyFmt.frame
set_option linter.unusedVariables false

set_option maxHeartbeats 2000000 in
theorem empty_bare (F : Interp) (a0 a1 a2 : Int) (a3 : ByteArray) (a4 a5 : Int) (a6 a7 : Bool) (a8 : Option Addr) (len cap : Nat) (ss : List ByteArray) (a9 : ByteArray) (a11 : Int) (w : World)
    (hF : F.answers w.tape) (w0 : 0 ≤ a0) (w11 : 0 ≤ a11 ∧ a11 ≤ 255) (hl : len ≤ 1024) (HR : Hid (Reads w a8 len ss)) (h0 : len = 0) (hs : a0 = 0) (hz : Zero a2 a3 a4 a5 a6) :
    Calls Ybaf.prog 3 #[.int .u64 a0, .int .u64 a1, .int .i64 a2, .string a3, .int .i64 a4, .int .i64 a5, .bool a6, .bool a7, .slice a8 len cap, .string a9, .bool true, .int .u8 a11] w fun e w' =>
      e = .returned (.bool true) ∧ Below w.heap.size w w' := by
  subst hs
  obtain ⟨rfl, hk, rfl, rfl, rfl⟩ := hz
  obtain rfl := empty_of hk
  subst h0
  go_enter Ybaf.func3, Ybaf.ntmps3
  go_wp2_with (go_at_call 4; refine (cf_bare _ _ _ _).mono ?_; rintro e wb ⟨rfl, hbel⟩; have HB : Below w.heap.size w wb := (bel_alloc (bel_alloc (Below.refl _ _) _) _).trans (hbel.mono (by simp; omega)); have HRb : Hid (Reads wb a8 0 ss) := reads_below HR.out HB; clear hbel)
  all_goals go_ret
  all_goals exact ⟨rfl, HB⟩

set_option maxHeartbeats 2000000 in
theorem empty_beat (F : Interp) (a0 a1 a2 : Int) (a3 : ByteArray) (a4 a5 : Int) (a6 a7 : Bool) (a8 : Option Addr) (len cap : Nat) (ss : List ByteArray) (a9 : ByteArray) (a11 : Int) (w : World)
    (hF : F.answers w.tape) (w0 : 0 ≤ a0) (w11 : 0 ≤ a11 ∧ a11 ≤ 255) (hl : len ≤ 1024) (HR : Hid (Reads w a8 len ss)) (h0 : len = 0) (hs : a0 = 0) (HZ : Hid (¬ Zero a2 a3 a4 a5 a6)) :
    Calls Ybaf.prog 3 #[.int .u64 a0, .int .u64 a1, .int .i64 a2, .string a3, .int .i64 a4, .int .i64 a5, .bool a6, .bool a7, .slice a8 len cap, .string a9, .bool true, .int .u8 a11] w fun e w' =>
      e = .returned (.bool true) ∧ Below w.heap.size w w' := by
  subst hs
  subst h0
  go_enter Ybaf.func3, Ybaf.ntmps3
  go_wp2_with (go_at_call 4; refine (cf_beat _ _ _ _ _ _ _ _ _ HZ).mono ?_; rintro e wb ⟨u, x, rfl, hbel⟩; have HB : Below w.heap.size w wb := (bel_alloc (bel_alloc (Below.refl _ _) _) _).trans (hbel.mono (by simp; omega)); have HRb : Hid (Reads wb a8 0 ss) := reads_below HR.out HB; clear hbel)
  all_goals first
    | exact absurd (show Zero _ _ _ _ _ from ⟨by first | rfl | assumption, by assumption, by first | rfl | assumption, by first | rfl | assumption, by first | rfl | assumption⟩) HZ.out
    | (go_ret; exact ⟨rfl, HB⟩)

set_option maxHeartbeats 2000000 in
theorem empty_round (F : Interp) (a0 a1 a2 : Int) (a3 : ByteArray) (a4 a5 : Int) (a6 a7 : Bool) (a8 : Option Addr) (len cap : Nat) (ss : List ByteArray) (a9 : ByteArray) (a11 : Int) (w : World)
    (hF : F.answers w.tape) (w0 : 0 ≤ a0) (w11 : 0 ≤ a11 ∧ a11 ≤ 255) (hl : len ≤ 1024) (HR : Hid (Reads w a8 len ss)) (h0 : len = 0) (hs1 : 0 < a0) (hh : hasB ss a3 len = true) (hn : a4 < 0) :
    Calls Ybaf.prog 3 #[.int .u64 a0, .int .u64 a1, .int .i64 a2, .string a3, .int .i64 a4, .int .i64 a5, .bool a6, .bool a7, .slice a8 len cap, .string a9, .bool true, .int .u8 a11] w fun e w' =>
      e = .returned (.bool true) ∧ Below w.heap.size w w' := by
  subst h0
  go_enter Ybaf.func3, Ybaf.ntmps3
  go_wp2_with (first | (go_at_call 4; refine (cf_round F _ _ _ _ _ _ _ _ _ a8 0 cap ss _ ?_ hs1 hl ?_ ?_ ?_ hh hn).mono ?_; (show F.answers w.tape; exact hF); (simp; omega); (rw [World.cell?_alloc_past _ _ _ (by simp), World.cell?_alloc_at _ _ _ _ rfl]; rfl); (exact reads_alloc (reads_alloc HR.out _) _); rintro e wb ⟨u, x, rfl, hbel⟩; have HB : Below w.heap.size w wb := (bel_alloc (bel_alloc (Below.refl _ _) _) _).trans (hbel.mono (by simp; omega)); have HRb : Hid (Reads wb a8 0 ss) := reads_below HR.out HB; clear hbel) | (go_at_call 5; refine (has_any a8 0 cap ss _ _ hl HRb.out).mono ?_; rintro e wc ⟨rfl, rfl⟩))
  all_goals go_ret
  all_goals exact ⟨rfl, HB⟩

set_option maxHeartbeats 2000000 in
theorem empty_ok (F : Interp) (a0 a1 a2 : Int) (a3 : ByteArray) (a4 a5 : Int) (a6 a7 : Bool) (a8 : Option Addr) (len cap : Nat) (ss : List ByteArray) (a9 : ByteArray) (a11 : Int) (w : World)
    (hF : F.answers w.tape) (w0 : 0 ≤ a0) (w11 : 0 ≤ a11 ∧ a11 ≤ 255) (hl : len ≤ 1024) (HR : Hid (Reads w a8 len ss)) (h0 : len = 0) (hs1 : 0 < a0) (hh : hasB ss a3 len = true) (hn : 0 ≤ a4) :
    Calls Ybaf.prog 3 #[.int .u64 a0, .int .u64 a1, .int .i64 a2, .string a3, .int .i64 a4, .int .i64 a5, .bool a6, .bool a7, .slice a8 len cap, .string a9, .bool true, .int .u8 a11] w fun e w' =>
      e = .returned (.bool true) ∧ Below w.heap.size w w' := by
  subst h0
  go_enter Ybaf.func3, Ybaf.ntmps3
  go_wp2_with (first | (go_at_call 4; refine (cf_ok _ _ _ _ _ _ _ _ _ a8 0 cap ss _ hs1 hl ?_ ?_ ?_ hh hn).mono ?_; (simp; omega); (rw [World.cell?_alloc_past _ _ _ (by simp), World.cell?_alloc_at _ _ _ _ rfl]; rfl); (exact reads_alloc (reads_alloc HR.out _) _); rintro e wb ⟨rfl, hbel⟩; have HB : Below w.heap.size w wb := (bel_alloc (bel_alloc (Below.refl _ _) _) _).trans (hbel.mono (by simp; omega)); have HRb : Hid (Reads wb a8 0 ss) := reads_below HR.out HB; clear hbel) | (go_at_call 5; refine (has_any a8 0 cap ss _ _ hl HRb.out).mono ?_; rintro e wc ⟨rfl, rfl⟩))
  all_goals go_ret
  all_goals exact ⟨rfl, HB⟩

set_option maxHeartbeats 2000000 in
theorem empty_kind (F : Interp) (a0 a1 a2 : Int) (a3 : ByteArray) (a4 a5 : Int) (a6 a7 : Bool) (a8 : Option Addr) (len cap : Nat) (ss : List ByteArray) (a9 : ByteArray) (a11 : Int) (w : World)
    (hF : F.answers w.tape) (w0 : 0 ≤ a0) (w11 : 0 ≤ a11 ∧ a11 ≤ 255) (hl : len ≤ 1024) (HR : Hid (Reads w a8 len ss)) (h0 : len = 0) (hs1 : 0 < a0) (hh : hasB ss a3 len = false) :
    Calls Ybaf.prog 3 #[.int .u64 a0, .int .u64 a1, .int .i64 a2, .string a3, .int .i64 a4, .int .i64 a5, .bool a6, .bool a7, .slice a8 len cap, .string a9, .bool true, .int .u8 a11] w fun e w' =>
      e = .returned (.bool true) ∧ Below w.heap.size w w' := by
  subst h0
  go_enter Ybaf.func3, Ybaf.ntmps3
  go_wp2_with (first | (go_at_call 4; refine (cf_kind F _ _ _ _ _ _ _ _ _ a8 0 cap ss a9 _ ?_ hs1 hl ?_ ?_ ?_ ?_ hh).mono ?_; (show F.answers w.tape; exact hF); (simp; omega); (rw [World.cell?_alloc_past _ _ _ (by simp), World.cell?_alloc_at _ _ _ _ rfl]; rfl); (rw [World.cell?_alloc_past _ _ _ (by simp), World.cell?_alloc_at _ _ _ _ rfl]; rfl); (exact reads_alloc (reads_alloc HR.out _) _); rintro e wb ⟨u, x, rfl, hbel⟩; have HB : Below w.heap.size w wb := (bel_alloc (bel_alloc (Below.refl _ _) _) _).trans (hbel.mono (by simp; omega)); have HRb : Hid (Reads wb a8 0 ss) := reads_below HR.out HB; clear hbel) | (go_at_call 5; refine (has_any a8 0 cap ss _ _ hl HRb.out).mono ?_; rintro e wc ⟨rfl, rfl⟩))
  all_goals go_ret
  all_goals exact ⟨rfl, HB⟩

end Go.Proofs.YbulkcyhyFmt.walk
