/-
  No cell of these rows narrows 'for every input' (looked for: loops, veiled, ifaces, maps, wideKeys, modest, calm, conditions, laid).
  DERIVED. THE GIVEN ROWS OF THIS SEAT. 1 by the template 'for every input the law returns true; each argument reads behind the call as it read before'; 0 by the template 'total and deterministic' (their statements: YbulkcyhyFmtTotals.lean).
  GIVEN WITH THE SEED: the statements are not yours to turn. If you find one false, say at which input.
  Laid BY PROGRAM, IN A SANDBOX (cutbox-rows.mjs): the forced cells as the released guide's own fill.sh prints them over the translation 83fda0310a6fc709… (all of the seat's roots in one cut). By AI agents, Wed Nov 11 2026. No macro, syntax, notation, axiom, sorry.
-/
import Derived.Test.YbulkcyhyFmtChecked
import GoSem.Claim
import GoSem.ClaimJoined
import GoSem.ClaimMapViews
import Derived.JoinedTies
import Derived.KernelRfl
namespace Go.Proofs.YbulkcyhyFmt
/- THE CELL 'sum', in the pinned program and in every row, IS THE sha256 OF THE DUMP (.gsa) THAT YbulkcyhyFmtProg.lean LOADS. Nothing in Lean hashes anything: it is a label: what it is worth is what the hold of that sum in a sandbox is worth. -/
noncomputable def Ybaf.pinned : Pinned := { name := "ybulkcyhyfmt", sum := "83fda0310a6fc709d9d59d855d0cc169f95bc6fff5b41b0c804743dde16fafe4", checked := Ybaf.checked }
namespace Rows
def none {H : Type} : Left H := { results := [], args := [] }

/-- 'accordant.LawS4990BVerdict': WHATEVER THE INPUT: true; the input reads as it did. -/
def lawS4990BVerdictSpec : ChangeSpec := { name := "lawS4990BVerdict", fn := fun _ => fun
  | [d1, d2, d3, d4, d5, d6, d7, d8, d9, d10, d11, d12] => { results := [.lit (.bool true)], args := [d1, d2, d3, d4, d5, d6, d7, d8, d9, d10, d11, d12] }
  | _ => none }
def lawS4990BVerdictRow : OpenClaim := { program := "ybulkcyhyfmt", sum := "83fda0310a6fc709d9d59d855d0cc169f95bc6fff5b41b0c804743dde16fafe4", func := "example.com/accordant/accordant.LawS4990BVerdict", spec := "lawS4990BVerdict", stops := ["fmt.errorf"], inPlace := ["fmt.errorf"], plainKeys := false, apart := false }
/-- NO THEOREM (fmt's text is open here; it may be false): for the released tool's asking of the row's closed facts alone. THE STATEMENT IS 'LawS4990BVerdictToldSaid' (YbulkcyhyFmtCards.lean). -/
def LawS4990BVerdictFormAsk : Prop := lawS4990BVerdictRow.holds Ybaf.pinned (OpenSpec.ofChange lawS4990BVerdictSpec)

/-- ITS FALSE NEIGHBOUR: 'it returns false'. Refute it at one input. -/
def lawS4990BVerdictWrong : ChangeSpec := { name := "lawS4990BVerdict", fn := fun _ => fun
  | [d1, d2, d3, d4, d5, d6, d7, d8, d9, d10, d11, d12] => { results := [.lit (.bool false)], args := [d1, d2, d3, d4, d5, d6, d7, d8, d9, d10, d11, d12] }
  | _ => none }
def LawS4990BVerdictWrongFormAsk : Prop := lawS4990BVerdictRow.holds Ybaf.pinned (OpenSpec.ofChange lawS4990BVerdictWrong)

end Rows
end Go.Proofs.YbulkcyhyFmt
