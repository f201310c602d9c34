/- The contracts of 'filled' and 'newAssigned'. -/
import Derived.Test.YbulkcyhkRows
import Derived.WalkKit
import Derived.ProofKit
import Derived.OpenShut
import Derived.WalkSpells
namespace Go.Proofs.Ybulkcyhk.filled
open Go.ChangeShapes Go.WideShapes Go.ChangeAt Go.RowKit
set_option linter.unusedVariables false

/-- No written text: the held value twice. -/
theorem filled_nil (v : ByteArray) (f l : Int) (w : World) :
    Calls Yba.prog 6 #[.agg #[.string v, .pointer none, .int .i64 f, .int .i64 l]] w fun e w' => e = .returned (.agg #[.string v, .string v]) ∧
      w' = (w.alloc (.cells #[.string v, .pointer none, .int .i64 f, .int .i64 l] 24)).alloc (.cells #[.string v, .string v] 26) := by
  go_enter Yba.func6, Yba.ntmps6
  go_wp2
  exact bodyPost_ret (v := .agg #[.string v, .string v]) (by simp [results, Yba.results6, go_sem]) rfl ⟨rfl, rfl⟩

/-- A written text: the held value and that text. -/
theorem filled_some (v t : ByteArray) (f l : Int) (b : Nat) (w : World) (hb : b < w.heap.size) (hc : w.cell? ⟨b, 0, none⟩ = some (.string t)) :
    Calls Yba.prog 6 #[.agg #[.string v, .pointer (some ⟨b, 0, none⟩), .int .i64 f, .int .i64 l]] w fun e w' => e = .returned (.agg #[.string v, .string t]) ∧
      w' = ((w.alloc (.cells #[.string v, .pointer (some ⟨b, 0, none⟩), .int .i64 f, .int .i64 l] 24)).alloc (.cells #[.string v, .string t] 26)).drew := by
  have h1 : b < w.heap.size + 1 := by omega
  have h2 : b < w.heap.size + 1 + 1 := by omega
  go_enter Yba.func6, Yba.ntmps6
  go_wp2
  go_region
  all_goals go_wp2
  all_goals exact bodyPost_ret (v := .agg #[.string v, .string t]) (by simp [results, Yba.results6, go_sem]) rfl ⟨rfl, rfl⟩

/-- newAssigned where the written text is the held one. -/
theorem new_same (h : ByteArray) (f l : Int) (w : World) :
    Calls Yba.prog 7 #[.agg #[.string h, .string h], .int .i64 f, .int .i64 l] w fun e w' => e = .returned (.agg #[.string h, .pointer none, .int .i64 f, .int .i64 l]) ∧
      w' = ((w.alloc (.cells #[.string h, .string h] 26)).alloc (.cells #[.string h, .pointer none, .int .i64 f, .int .i64 l] 24)).alloc (.cells #[.string h, .pointer none, .int .i64 f, .int .i64 l] 24) := by
  go_enter Yba.func7, Yba.ntmps7
  go_wp2
  exact bodyPost_ret (v := .agg #[.string h, .pointer none, .int .i64 f, .int .i64 l]) (by simp [results, Yba.results7, go_sem]) rfl ⟨rfl, rfl⟩

/-- newAssigned where it is another. -/
theorem new_other (h t : ByteArray) (f l : Int) (w : World) (hne : (t.toList == h.toList) = false) :
    Calls Yba.prog 7 #[.agg #[.string h, .string t], .int .i64 f, .int .i64 l] w fun e w' => e = .returned (.agg #[.string h, .pointer (some ⟨w.heap.size + 1 + 1 + 1, 0, none⟩), .int .i64 f, .int .i64 l]) ∧
      w' = (((w.alloc (.cells #[.string h, .string t] 26)).alloc (.cells #[.string h, .pointer (some ⟨w.heap.size + 1 + 1 + 1, 0, none⟩), .int .i64 f, .int .i64 l] 24)).alloc (.cells #[.string h, .pointer (some ⟨w.heap.size + 1 + 1 + 1, 0, none⟩), .int .i64 f, .int .i64 l] 24)).alloc (.cells #[.string t] 9) := by
  go_enter Yba.func7, Yba.ntmps7
  go_wp2
  exact bodyPost_ret (v := .agg #[.string h, .pointer (some ⟨w.heap.size + 1 + 1 + 1, 0, none⟩), .int .i64 f, .int .i64 l]) (by simp [results, Yba.results7, go_sem]) rfl ⟨rfl, rfl⟩
end Go.Proofs.Ybulkcyhk.filled
