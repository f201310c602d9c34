/-
  No cell of these rows narrows 'for every input' (looked for: loops, veiled, ifaces, maps, wideKeys, modest, calm, conditions, laid).
  DERIVED. THE GIVEN ROWS OF THIS SEAT. 3 by the template 'for every input the law returns true; each argument reads behind the call as it read before'; 0 by the template 'total and deterministic' (their statements: YbulkcyhkTotals.lean).
  GIVEN WITH THE SEED: the statements are not yours to turn. If you find one false, say at which input.
  Laid BY PROGRAM, IN A SANDBOX (cutbox-rows.mjs): the forced cells as the released guide's own fill.sh prints them over the translation 3b4c0e9fb0677072… (all of the seat's roots in one cut). By AI agents, Wed Nov 11 2026. No macro, syntax, notation, axiom, sorry.
-/
import Derived.Test.YbulkcyhkChecked
import GoSem.Claim
import GoSem.ClaimJoined
import GoSem.ClaimMapViews
import Derived.JoinedTies
import Derived.KernelRfl
namespace Go.Proofs.Ybulkcyhk
/- THE CELL 'sum', in the pinned program and in every row, IS THE sha256 OF THE DUMP (.gsa) THAT YbulkcyhkProg.lean LOADS. Nothing in Lean hashes anything: it is a label: what it is worth is what the hold of that sum in a sandbox is worth. -/
noncomputable def Yba.pinned : Pinned := { name := "ybulkcyhk", sum := "3b4c0e9fb067707210e96657fad7f7d9b9b3e76ada61be73d3b667e5ff5f84f3", checked := Yba.checked }
namespace Rows
def none {H : Type} : Left H := { results := [], args := [] }

/-- 'strict-units.LawS4989AExact': WHATEVER THE INPUT: true; the input reads as it did. -/
def lawS4989AExactSpec : ChangeSpec := { name := "lawS4989AExact", fn := fun _ => fun
  | [d1, d2, d3, d4, d5] => { results := [.lit (.bool true)], args := [d1, d2, d3, d4, d5] }
  | _ => none }
def lawS4989AExactRow : OpenClaim := { program := "ybulkcyhk", sum := "3b4c0e9fb067707210e96657fad7f7d9b9b3e76ada61be73d3b667e5ff5f84f3", func := "example.com/strict-units/strict-units.LawS4989AExact", spec := "lawS4989AExact", apart := false }
def LawS4989AExactSaid : Prop := lawS4989AExactRow.holds Yba.pinned (OpenSpec.ofChange lawS4989AExactSpec)

/-- ITS FALSE NEIGHBOUR: 'it returns false'. Refute it at one input. -/
def lawS4989AExactWrong : ChangeSpec := { name := "lawS4989AExact", fn := fun _ => fun
  | [d1, d2, d3, d4, d5] => { results := [.lit (.bool false)], args := [d1, d2, d3, d4, d5] }
  | _ => none }
def LawS4989AExactWrongFalsely : Prop := lawS4989AExactRow.holds Yba.pinned (OpenSpec.ofChange lawS4989AExactWrong)

/-- 'strict-units.LawS4989ARoundTrip': WHATEVER THE INPUT: true; the input reads as it did. -/
def lawS4989ARoundTripSpec : ChangeSpec := { name := "lawS4989ARoundTrip", fn := fun _ => fun
  | [d1, d2, d3, d4] => { results := [.lit (.bool true)], args := [d1, d2, d3, d4] }
  | _ => none }
def lawS4989ARoundTripRow : OpenClaim := { program := "ybulkcyhk", sum := "3b4c0e9fb067707210e96657fad7f7d9b9b3e76ada61be73d3b667e5ff5f84f3", func := "example.com/strict-units/strict-units.LawS4989ARoundTrip", spec := "lawS4989ARoundTrip", apart := false }
def LawS4989ARoundTripSaid : Prop := lawS4989ARoundTripRow.holds Yba.pinned (OpenSpec.ofChange lawS4989ARoundTripSpec)

/-- ITS FALSE NEIGHBOUR: 'it returns false'. Refute it at one input. -/
def lawS4989ARoundTripWrong : ChangeSpec := { name := "lawS4989ARoundTrip", fn := fun _ => fun
  | [d1, d2, d3, d4] => { results := [.lit (.bool false)], args := [d1, d2, d3, d4] }
  | _ => none }
def LawS4989ARoundTripWrongFalsely : Prop := lawS4989ARoundTripRow.holds Yba.pinned (OpenSpec.ofChange lawS4989ARoundTripWrong)

/-- 'strict-units.LawS4989BExact': WHATEVER THE INPUT: true; the input reads as it did. -/
def lawS4989BExactSpec : ChangeSpec := { name := "lawS4989BExact", fn := fun _ => fun
  | [d1, d2, d3] => { results := [.lit (.bool true)], args := [d1, d2, d3] }
  | _ => none }
def lawS4989BExactRow : OpenClaim := { program := "ybulkcyhk", sum := "3b4c0e9fb067707210e96657fad7f7d9b9b3e76ada61be73d3b667e5ff5f84f3", func := "example.com/strict-units/strict-units.LawS4989BExact", spec := "lawS4989BExact", apart := false }
def LawS4989BExactSaid : Prop := lawS4989BExactRow.holds Yba.pinned (OpenSpec.ofChange lawS4989BExactSpec)

/-- ITS FALSE NEIGHBOUR: 'it returns false'. Refute it at one input. -/
def lawS4989BExactWrong : ChangeSpec := { name := "lawS4989BExact", fn := fun _ => fun
  | [d1, d2, d3] => { results := [.lit (.bool false)], args := [d1, d2, d3] }
  | _ => none }
def LawS4989BExactWrongFalsely : Prop := lawS4989BExactRow.holds Yba.pinned (OpenSpec.ofChange lawS4989BExactWrong)

end Rows
end Go.Proofs.Ybulkcyhk
