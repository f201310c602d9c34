/- The law's walk. -/
import Derived.Test.YbulkcyhyFmtFrame
namespace Go.Proofs.YbulkcyhyFmt.walk
open Go.RowKit Go.Extern.Stop Go.Stop Go.Extern
open Go.Proofs.YbulkcyhyFmt.facts Go.Proofs.YbulkcyhyFmt.has Go.Proofs.YbulkcyhyFmt.frame
set_option linter.unusedVariables false

theorem reads_below {w w' : World} {a : Option Addr} {len : Nat} {ss : List ByteArray} (h : Reads w a len ss) (hb : Below w.heap.size w w') : Reads w' a len ss := fun i hi => by
  obtain ⟨b, off, e, hc⟩ := h i hi
  exact ⟨b, off, e, by rw [hb.cell (World.block_lt_of_cell? _ _ hc)]; exact hc⟩

theorem pick_of (x : Int) (len : Nat) (h0 : 0 ≤ x) (hl : 0 < len) : ∃ j : Nat, x % (len : Int) = (j : Int) ∧ j < len := by
  have h1 := Int.emod_nonneg x (show (len : Int) ≠ 0 by omega)
  have h2 := Int.emod_lt_of_pos x (show 0 < (len : Int) by omega)
  exact ⟨(x % (len : Int)).toNat, by omega, by omega⟩

theorem empty_of {k : ByteArray} (h : k.toList = []) : k = ⟨#[]⟩ := by
  rw [ByteArray.toList_eq] at h
  exact ByteArray.ext (Array.toList_inj.1 h)

end Go.Proofs.YbulkcyhyFmt.walk
