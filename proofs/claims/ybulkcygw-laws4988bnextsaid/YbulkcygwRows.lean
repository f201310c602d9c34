/-
  No cell of these rows narrows 'for every input' (looked for: loops, veiled, ifaces, maps, wideKeys, modest, calm, conditions, laid).
  DERIVED. THE GIVEN ROWS OF THIS SEAT. 2 by the template 'for every input the law returns true; each argument reads behind the call as it read before'; 0 by the template 'total and deterministic' (their statements: YbulkcygwTotals.lean).
  GIVEN WITH THE SEED: the statements are not yours to turn. If you find one false, say at which input.
  Laid BY PROGRAM, IN A SANDBOX (cutbox-rows.mjs): the forced cells as the released guide's own fill.sh prints them over the translation 92cc93df189d552e… (all of the seat's roots in one cut). By AI agents, Wed Nov 11 2026. No macro, syntax, notation, axiom, sorry.
-/
import Derived.Test.YbulkcygwChecked
import GoSem.Claim
import GoSem.ClaimJoined
import GoSem.ClaimMapViews
import Derived.JoinedTies
import Derived.KernelRfl
namespace Go.Proofs.Ybulkcygw
/- THE CELL 'sum', in the pinned program and in every row, IS THE sha256 OF THE DUMP (.gsa) THAT YbulkcygwProg.lean LOADS. Nothing in Lean hashes anything: it is a label: what it is worth is what the hold of that sum in a sandbox is worth. -/
noncomputable def Yba.pinned : Pinned := { name := "ybulkcygw", sum := "92cc93df189d552ef05f7865023dc2025ee04401180ea16b47bbece82b5bf8df", checked := Yba.checked }
namespace Rows
def none {H : Type} : Left H := { results := [], args := [] }

/-- 'shell.LawS4988BModel': WHATEVER THE INPUT: true; the input reads as it did. -/
def lawS4988BModelSpec : ChangeSpec := { name := "lawS4988BModel", fn := fun _ => fun
  | [d1, d2, d3, d4, d5, d6] => { results := [.lit (.bool true)], args := [d1, d2, d3, d4, d5, d6] }
  | _ => none }
def lawS4988BModelRow : OpenClaim := { program := "ybulkcygw", sum := "92cc93df189d552ef05f7865023dc2025ee04401180ea16b47bbece82b5bf8df", func := "example.com/meishi/meishi/internal/shell.LawS4988BModel", spec := "lawS4988BModel", apart := false }
def LawS4988BModelSaid : Prop := lawS4988BModelRow.holds Yba.pinned (OpenSpec.ofChange lawS4988BModelSpec)

/-- ITS FALSE NEIGHBOUR: 'it returns false'. Refute it at one input. -/
def lawS4988BModelWrong : ChangeSpec := { name := "lawS4988BModel", fn := fun _ => fun
  | [d1, d2, d3, d4, d5, d6] => { results := [.lit (.bool false)], args := [d1, d2, d3, d4, d5, d6] }
  | _ => none }
def LawS4988BModelWrongFalsely : Prop := lawS4988BModelRow.holds Yba.pinned (OpenSpec.ofChange lawS4988BModelWrong)

/-- 'shell.LawS4988BNext': WHATEVER THE INPUT: true; the input reads as it did. -/
def lawS4988BNextSpec : ChangeSpec := { name := "lawS4988BNext", fn := fun _ => fun
  | [d1, d2, d3, d4] => { results := [.lit (.bool true)], args := [d1, d2, d3, d4] }
  | _ => none }
def lawS4988BNextRow : OpenClaim := { program := "ybulkcygw", sum := "92cc93df189d552ef05f7865023dc2025ee04401180ea16b47bbece82b5bf8df", func := "example.com/meishi/meishi/internal/shell.LawS4988BNext", spec := "lawS4988BNext", apart := false }
def LawS4988BNextSaid : Prop := lawS4988BNextRow.holds Yba.pinned (OpenSpec.ofChange lawS4988BNextSpec)

/-- ITS FALSE NEIGHBOUR: 'it returns false'. Refute it at one input. -/
def lawS4988BNextWrong : ChangeSpec := { name := "lawS4988BNext", fn := fun _ => fun
  | [d1, d2, d3, d4] => { results := [.lit (.bool false)], args := [d1, d2, d3, d4] }
  | _ => none }
def LawS4988BNextWrongFalsely : Prop := lawS4988BNextRow.holds Yba.pinned (OpenSpec.ofChange lawS4988BNextWrong)

end Rows
end Go.Proofs.Ybulkcygw
