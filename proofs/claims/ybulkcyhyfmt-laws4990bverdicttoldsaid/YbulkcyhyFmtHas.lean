/- Whether a text is among the kinds: slices.Index, slices.Contains at []string, and the law's own linear search. -/
import Derived.Test.YbulkcyhyFmtCards
import Derived.WalkKit
import Derived.ProofKit
import Derived.OpenShut
import Derived.WalkSpells
namespace Go.Proofs.YbulkcyhyFmt.has
open Go.RowKit
set_option linter.unusedVariables false

/-- The slice's elements, where there are any: the texts ss. -/
def Reads (w : World) (a : Option Addr) (len : Nat) (ss : List ByteArray) : Prop :=
  ∀ i, i < len → ∃ b off, a = some ⟨b, off, none⟩ ∧ w.cell? ⟨b, off + i, none⟩ = some (.string (ss.getD i ByteArray.empty))

/-- Is k among the first n texts? -/
def hasB (ss : List ByteArray) (k : ByteArray) : Nat → Bool
  | 0 => false
  | n + 1 => hasB ss k n || ((ss.getD n ByteArray.empty).toList == k.toList)

theorem hasB_mono {ss : List ByteArray} {k : ByteArray} {n m : Nat} (h : hasB ss k n = true) (hm : n ≤ m) : hasB ss k m = true := by
  induction m with
  | zero => obtain rfl : n = 0 := by omega
            exact h
  | succ m ih =>
    by_cases e : n = m + 1
    · rw [← e]; exact h
    · simp [hasB, ih (by omega)]

theorem hasB_hit {ss : List ByteArray} {k : ByteArray} {n m : Nat} (h : ((ss.getD n ByteArray.empty).toList == k.toList) = true) (hm : n < m) : hasB ss k m = true :=
  hasB_mono (n := n + 1) (by unfold hasB; rw [h, Bool.or_true]) hm

theorem hasB_miss {ss : List ByteArray} {k : ByteArray} {n : Nat} (h : hasB ss k n = false) (h2 : ((ss.getD n ByteArray.empty).toList == k.toList) = false) : hasB ss k (n + 1) = false := by
  unfold hasB; rw [h, h2]; rfl

theorem ret_bool {a b : Bool} (h : a = b) : Ending.returned (.bool a) = .returned (.bool b) := by rw [h]

set_option maxHeartbeats 400000 in
theorem index_any (a : Option Addr) (len cap : Nat) (ss : List ByteArray) (k : ByteArray) (w : World) (hl : len ≤ 1024) (hr : Reads w a len ss) :
    Calls Ybaf.prog 9 #[.slice a len cap, .string k] w fun e w' => ∃ r : Int, e = .returned (.int .i64 r) ∧ (hasB ss k len = true → 0 ≤ r) ∧ (hasB ss k len = false → r = -1) ∧ w = w' := by
  go_enter Ybaf.func9, Ybaf.ntmps9
  go_wp2
  go_loop [8] (fun t => ∃ i : Nat, i ≤ len ∧ t = .int .i64 i ∧ hasB ss k i = false) (fun t => len - (intOf t).toNat)
  case atStart => exact ⟨0, Nat.zero_le _, rfl, rfl⟩
  case round =>
    obtain ⟨i, hi, rfl, hno⟩ := hrel
    have HN : Hid (hasB ss k i = false) := hno
    clear hno
    by_cases hlt : i < len
    · obtain ⟨b, off, rfl, hc⟩ := hr i hlt
      obtain ⟨s, hs⟩ : ∃ s, s = ss.getD i ByteArray.empty := ⟨_, rfl⟩
      rw [← hs] at hc
      have HS : Hid (s = ss.getD i ByteArray.empty) := hs
      clear hs hr
      by_cases he : (k.toList == s.toList) = true
      · go_wp2
        go_ret
        have h : hasB ss k len = true := hasB_hit (by rw [← HS.out, BEq.comm]; exact he) hlt
        exact ⟨i, rfl, fun _ => by omega, fun h' => (by rw [h] at h'; cases h'), rfl⟩
      · have he' : (k.toList == s.toList) = false := by simpa using he
        clear he
        go_wp2
        go_round
        case rel => exact ⟨i + 1, by omega, by go_num, hasB_miss HN.out (by rw [← HS.out, BEq.comm]; exact he')⟩
        case measure => simp [intOf]; omega
    · clear hr
      go_wp2
      go_ret
      obtain rfl : i = len := by omega
      exact ⟨-1, rfl, fun h => (by rw [HN.out] at h; cases h), fun _ => rfl, rfl⟩

theorem contains_any (a : Option Addr) (len cap : Nat) (ss : List ByteArray) (k : ByteArray) (w : World) (hl : len ≤ 1024) (hr : Reads w a len ss) :
    Calls Ybaf.prog 7 #[.slice a len cap, .string k] w fun e w' => e = .returned (.bool (hasB ss k len)) ∧ w = w' := by
  go_enter Ybaf.func7, Ybaf.ntmps7
  go_wp2_with (go_at_call 9; refine (index_any a len cap ss k _ hl hr).mono ?_; rintro e w' ⟨r, rfl, h1, h2, rfl⟩)
  go_ret
  refine ⟨ret_bool ?_, rfl⟩
  cases hb : hasB ss k len
  · have := h2 hb; simp [this]
  · have := h1 hb; simp [this]

set_option maxHeartbeats 400000 in
theorem has_any (a : Option Addr) (len cap : Nat) (ss : List ByteArray) (k : ByteArray) (w : World) (hl : len ≤ 1024) (hr : Reads w a len ss) :
    Calls Ybaf.prog 5 #[.slice a len cap, .string k] w fun e w' => e = .returned (.bool (hasB ss k len)) ∧ w = w' := by
  go_enter Ybaf.func5, Ybaf.ntmps5
  go_wp2
  go_loop [5] (fun t => ∃ i : Nat, i ≤ len ∧ t = .int .i64 i ∧ hasB ss k i = false) (fun t => len - (intOf t).toNat)
  case atStart => exact ⟨0, Nat.zero_le _, rfl, rfl⟩
  case round =>
    obtain ⟨i, hi, rfl, hno⟩ := hrel
    have HN : Hid (hasB ss k i = false) := hno
    clear hno
    by_cases hlt : i < len
    · obtain ⟨b, off, rfl, hc⟩ := hr i hlt
      obtain ⟨s, hs⟩ : ∃ s, s = ss.getD i ByteArray.empty := ⟨_, rfl⟩
      rw [← hs] at hc
      have HS : Hid (s = ss.getD i ByteArray.empty) := hs
      clear hs hr
      by_cases he : (s.toList == k.toList) = true
      · go_wp2
        go_ret
        exact ⟨ret_bool (hasB_hit (by rw [← HS.out]; exact he) hlt).symm, rfl⟩
      · have he' : (s.toList == k.toList) = false := by simpa using he
        clear he
        go_wp2
        go_round
        case rel => exact ⟨i + 1, by omega, by go_num, hasB_miss HN.out (by rw [← HS.out]; exact he')⟩
        case measure => simp [intOf]; omega
    · clear hr
      go_wp2
      go_ret
      obtain rfl : i = len := by omega
      exact ⟨ret_bool HN.out.symm, rfl⟩
end Go.Proofs.YbulkcyhyFmt.has
