/-
  No cell of these rows narrows 'for every input' (looked for: loops, veiled, ifaces, maps, wideKeys, modest, calm, conditions, laid).
  DERIVED. THE GIVEN ROWS OF THIS SEAT. 2 by the template 'for every input the law returns true; each argument reads behind the call as it read before'; 0 by the template 'total and deterministic' (their statements: YbulkcyhyTotals.lean).
  GIVEN WITH THE SEED: the statements are not yours to turn. If you find one false, say at which input.
  Laid BY PROGRAM, IN A SANDBOX (cutbox-rows.mjs): the forced cells as the released guide's own fill.sh prints them over the translation e1ef45af9240ed17… (all of the seat's roots in one cut). By AI agents, Wed Nov 11 2026. No macro, syntax, notation, axiom, sorry.
-/
import Derived.Test.YbulkcyhyChecked
import GoSem.Claim
import GoSem.ClaimJoined
import GoSem.ClaimMapViews
import Derived.JoinedTies
import Derived.KernelRfl
namespace Go.Proofs.Ybulkcyhy
/- THE CELL 'sum', in the pinned program and in every row, IS THE sha256 OF THE DUMP (.gsa) THAT YbulkcyhyProg.lean LOADS. Nothing in Lean hashes anything: it is a label: what it is worth is what the hold of that sum in a sandbox is worth. -/
noncomputable def Yba.pinned : Pinned := { name := "ybulkcyhy", sum := "e1ef45af9240ed17d9ca113af7f04d450e80722d22e1849d97d4788ceef0f22b", checked := Yba.checked }
namespace Rows
def none {H : Type} : Left H := { results := [], args := [] }

/-- 'accordant.LawS4990CModel': WHATEVER THE INPUT: true; the input reads as it did. -/
def lawS4990CModelSpec : ChangeSpec := { name := "lawS4990CModel", fn := fun _ => fun
  | [d1, d2, d3, d4] => { results := [.lit (.bool true)], args := [d1, d2, d3, d4] }
  | _ => none }
def lawS4990CModelRow : OpenClaim := { program := "ybulkcyhy", sum := "e1ef45af9240ed17d9ca113af7f04d450e80722d22e1849d97d4788ceef0f22b", func := "example.com/accordant/accordant.LawS4990CModel", spec := "lawS4990CModel", unfollowed := true, recurses := true, apart := false }
def LawS4990CModelSaid : Prop := lawS4990CModelRow.holds Yba.pinned (OpenSpec.ofChange lawS4990CModelSpec)

/-- ITS FALSE NEIGHBOUR: 'it returns false'. Refute it at one input. -/
def lawS4990CModelWrong : ChangeSpec := { name := "lawS4990CModel", fn := fun _ => fun
  | [d1, d2, d3, d4] => { results := [.lit (.bool false)], args := [d1, d2, d3, d4] }
  | _ => none }
def LawS4990CModelWrongFalsely : Prop := lawS4990CModelRow.holds Yba.pinned (OpenSpec.ofChange lawS4990CModelWrong)

/-- 'accordant.LawS4990CEvery': WHATEVER THE INPUT: true; the input reads as it did. -/
def lawS4990CEverySpec : ChangeSpec := { name := "lawS4990CEvery", fn := fun _ => fun
  | [d] => { results := [.lit (.bool true)], args := [d] }
  | _ => none }
def lawS4990CEveryRow : OpenClaim := { program := "ybulkcyhy", sum := "e1ef45af9240ed17d9ca113af7f04d450e80722d22e1849d97d4788ceef0f22b", func := "example.com/accordant/accordant.LawS4990CEvery", spec := "lawS4990CEvery", unfollowed := true, recurses := true, apart := false }
def LawS4990CEverySaid : Prop := lawS4990CEveryRow.holds Yba.pinned (OpenSpec.ofChange lawS4990CEverySpec)

/-- ITS FALSE NEIGHBOUR: 'it returns false'. Refute it at one input. -/
def lawS4990CEveryWrong : ChangeSpec := { name := "lawS4990CEvery", fn := fun _ => fun
  | [d] => { results := [.lit (.bool false)], args := [d] }
  | _ => none }
def LawS4990CEveryWrongFalsely : Prop := lawS4990CEveryRow.holds Yba.pinned (OpenSpec.ofChange lawS4990CEveryWrong)

end Rows
end Go.Proofs.Ybulkcyhy
