import Derived.Test.YbulkcygwRows
import Derived.WalkKit
import Derived.ProofKit
import Derived.OpenShut
import Derived.ShutString
import Derived.ChangeOld
import Derived.Below
import Derived.WalkSpells
import Derived.Lib.AppendStr
import Derived.Laws.IdiomStrings
namespace Go.Proofs.Ybulkcygw.src
open Go.ChangeShapes Go.WideShapes Go.ChangeAt Go.RowKit
set_option linter.unusedVariables false

/-- WHAT THE WALK IS TOLD OF A SLICE OF INTEGERS THAT CAME IN (as the shells have it). -/
def IsRow (k : IntKind) (w : World) (a : Option Addr) (len cap : Nat) (zs : List Int) : Prop :=
  (a = none ∧ len = 0 ∧ cap = 0 ∧ zs = []) ∨
  ∃ x, a = some x ∧ len ≤ cap ∧ cap ≤ maxLen ∧ zs.length = cap ∧ (∀ i, i < zs.length → w.cell? (x.add i) = some (.int k (zs.getD i 0))) ∧ ∀ n ∈ zs, (Lit.int k n).wf = true

theorem info5 : (Yba.prog.info? 5).map (fun i => (i.zero, i.size, i.bytes)) = some (some (.int .u8 0), 1, 1) := by kernel_rfl

/-- Bytes as cells. -/
def cellsOf (l : List UInt8) : List Value := l.map fun b => Value.int .u8 (b.toNat : Int)

theorem tbl_at (c : Int) (h0 : 0 ≤ c) : ∃ x : UInt8, ∀ w : World, (Instr.index 9 (.string ⟨#[92, 10, 40, 123, 45, 97]⟩) (.int .i64 (c % 6))).run Yba.prog w = .ok (.int .u8 (x.toNat : Int)) w := by
  have hi : 0 ≤ c % 6 ∧ c % 6 < ((⟨#[92, 10, 40, 123, 45, 97]⟩ : ByteArray).size : Int) := by
    have : (⟨#[92, 10, 40, 123, 45, 97]⟩ : ByteArray).size = 6 := rfl
    rw [this]; omega
  refine ⟨(⟨#[92, 10, 40, 123, 45, 97]⟩ : ByteArray)[(c % 6).toNat]'(by omega), fun w => ?_⟩
  rw [run_index_string w 9 _ .i64 _ Yba.underlying9, dif_pos hi]

/-- 'string(b)' of a row that the call owns. -/
theorem conv_own {w : World} {base : Nat} {v : Value} {l : List UInt8} {n : Nat} (hl : l.length = n) (h : w.ownsRow base 5 1 v n (cellsOf l)) (hv : v ≠ .slice none 0 0) :
    (convert 22 9 v).run Yba.prog w = .ok (.string ⟨l.toArray⟩) w := by
  rcases h.2 with ⟨hn, _⟩ | ⟨g, cap, cur, rfl, _⟩
  · exact absurd hn hv
  · subst hl
    refine run_convert_bytes_back w 22 9 5 ⟨g, 0, none⟩ cap l Yba.underlying22 Yba.underlying5 Yba.underlying9 fun j hj => ?_
    have := h.cells (g := g) rfl j (.int .u8 (l[j].toNat : Int)) (by simp [cellsOf, List.getElem?_eq_getElem hj])
    exact this

set_option maxHeartbeats 400000 in
theorem src_any (a0 : ByteArray) (a1 : Option Addr) (len1 cap1 : Nat) (z1 : List Int) (w : World) (h0 : a0.size ≤ 4096) (h1 : len1 ≤ 4096) (w1 : IsRow .u8 w a1 len1 cap1 z1) :
    Calls Yba.prog 5 #[.string a0, .slice a1 len1 cap1] w fun e w' => ∃ src : ByteArray, src.size ≤ 8192 ∧ e = .returned (.string src) ∧ Below w.heap.size w w' := by
  obtain ⟨i0, hi, hz0, hz1, hz2⟩ := info_parts info5
  go_enter Yba.func5, Yba.ntmps5
  go_wp2_with (first
    | (at_make; refine wpList_make_own _ rfl _ _ 22 rfl w.heap.size 5 i0 (.int .u8 0) 1 Yba.underlying22 hi hz0 hz1 .i64 .i64 _ (a0.size + len1) rfl rfl ?c1 ?c2 ?c3 ?c4 ?_; rotate_right; intro w1' hown1 hg1)
    | (at_builtin; refine Lib.wpList_append_own_string _ rfl _ _ 22 9 rfl w.heap.size 5 i0 Yba.underlying22 Yba.underlying9 hi hz0 hz1 hz2 _ _ _ rfl hown1 a0 rfl ?d1 ?d2 ?d3 ?_; rotate_right; intro v2 w2 hown2 hg2 hn2))
  case d1 => unfold maxLen; omega
  case d2 => omega
  case d3 => exact hg1.size
  case c1 => omega
  case c2 => rw [hz2]; omega
  case c3 => unfold maxLen; omega
  case c4 => exact Nat.le_refl _
  have hb2 : Below w.heap.size w w2 := ((Below.refl _ w).grown hg1 (Nat.le_refl _) (fun k hk => by cases hk)).grown hg2 hg1.size (fun k hk => by cases hk; exact Nat.le_refl _)
  have hv2 : v2 ≠ .slice none 0 0 := fun h => by have := (hn2.1 h).1; cases this
  simp only [Nat.zero_add, List.nil_append] at hown2
  clear hown1 hg1 hg2 hn2
  go_loopw [5, 19] (fun v i wr => ∃ (k : Nat) (l : List UInt8), k ≤ len1 ∧ i = .int .i64 k ∧ l.length = a0.size + k ∧ wr.ownsRow w.heap.size 5 1 v (a0.size + k) (cellsOf l) ∧ v ≠ .slice none 0 0 ∧ Below w.heap.size w wr) (fun _ i _ => len1 - (intOf i).toNat)
  case atStart => exact ⟨0, a0.data.toList, Nat.zero_le _, rfl, by rw [Array.length_toList]; rfl, hown2, hv2, hb2⟩
  case round =>
    obtain ⟨k, l, hk, rfl, hl, hown, hv, hbl⟩ := hrel
    clear hown2 hv2 hb2
    by_cases hlt : k < len1
    · rcases w1 with ⟨_, h, _⟩ | ⟨x, rfl, hlc, hcm, hzl, hcell, hwf⟩
      · omega
      obtain ⟨b, off, rfl, hc⟩ := ints_at hcell (by omega)
      have hcx0 := hc k (by omega)
      have hcw := hwf (z1.getD k 0) (by rw [List.getD_eq_getElem?_getD, List.getElem?_eq_getElem (by omega)]; simp)
      obtain ⟨c, hce⟩ : ∃ c, c = z1.getD k 0 := ⟨_, rfl⟩
      rw [← hce] at hcx0 hcw
      have hcb := bounds_u8 hcw
      have hbB := World.block_lt_of_cell? _ _ hcx0
      have hcx : wr.cell? ⟨b, off + k, none⟩ = some (.int .u8 c) := (hbl.cell hbB).trans hcx0
      obtain ⟨x, hix⟩ := tbl_at c hcb.1
      clear hc hcell hwf hce hcx0 hcw
      go_wp2_with (at_builtin; refine wpList_append_own _ rfl _ _ 22 rfl w.heap.size 5 i0 (.int .u8 0) 1 1 Yba.underlying22 hi hz0 hz1 hz2 rfl (by decide) _ _ _ rfl (hown.alloc _) ⟨wr.heap.size, 0, none⟩ 1 1 [.int .u8 (x.toNat : Int)] rfl rfl ?e1 ?e2 ?e3 ?e4 ?e5 ?_; rotate_right; intro v3 w3 hown3 hg3 hn3)
      case e2 => rfl
      case e3 => unfold maxLen; omega
      case e4 => omega
      case e5 => have := hbl.size; simp; omega
      have hb3 : Below w.heap.size w w3 := (hbl.alloc hbl.size _).grown hg3 (by have := hbl.size; simp; omega) (fun j hj => (hown.lt j hj).1)
      have hv3 : v3 ≠ .slice none 0 0 := fun h => hv ((hn3.1 h).1)
      have ho3 : w3.ownsRow w.heap.size 5 1 v3 (a0.size + (k + 1)) (cellsOf (l ++ [x])) := by
        have : cellsOf (l ++ [x]) = cellsOf l ++ [.int .u8 (x.toNat : Int)] := by simp [cellsOf]
        rw [this, ← Nat.add_assoc]; exact hown3
      clear hown3 hg3 hn3 hown hv hcx hix
      go_roundw
      case rel => exact ⟨k + 1, l ++ [x], by omega, by go_num, by simp; omega, ho3, hv3, hb3⟩
      case measure => simp [intOf]; omega
    · have hcv := conv_own hl hown hv
      go_wp2
      go_ret
      exact ⟨⟨l.toArray⟩, by show l.toArray.size ≤ 8192; simp; omega, rfl, hbl⟩
end Go.Proofs.Ybulkcygw.src
