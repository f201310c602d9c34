/- The kit's contracts of slices.Sort and slices.Compact at []int, laid at this dump (the kit's own tools wrote this text for this program). -/
import Derived.Shelf.Sort.Plain
import Derived.Shelf.Slices.CompactI
import Derived.Test.YbulkcyhyProg
namespace Go.Proofs
open Go.Shelf
def Yba.lays189_ren : Go.Shelf.Ren := ⟨fun | 189 => 9 | 125 => 14 | 257 => 13 | 128 => 24 | 129 => 25 | 294 => 15 | 295 => 16 | 296 => 17 | 297 => 18 | 298 => 19 | 299 => 20 | 216 => 21 | 300 => 22 | 301 => 23 | 328 => 26 | 329 => 27 | 330 => 28 | 331 => 29 | 332 => 30 | 215 => 31 | 343 => 32 | n => n, fun | 28 => 38 | 3 => 3 | 46 => 47 | 0 => 0 | 51 => 57 | 53 => 30 | 4 => 4 | 183 => 50 | 182 => 49 | 131 => 42 | 5 => 5 | 9 => 9 | 218 => 59 | 222 => 63 | 228 => 66 | 229 => 67 | n => n, fun | n => n⟩
theorem Yba.lays189 : Go.Proofs.Lays.n189 Yba.prog Yba.lays189_ren := {
  mixed := by kernel_rfl
  f125 := Yba.func14.trans (congrArg some (by kernel_rfl))
  f128 := Yba.func24.trans (congrArg some (by kernel_rfl))
  f129 := Yba.func25.trans (congrArg some (by kernel_rfl))
  f189 := Yba.func9.trans (congrArg some (by kernel_rfl))
  f215 := Yba.func31.trans (congrArg some (by kernel_rfl))
  f216 := Yba.func21.trans (congrArg some (by kernel_rfl))
  f257 := Yba.func13.trans (congrArg some (by kernel_rfl))
  f294 := Yba.func15.trans (congrArg some (by kernel_rfl))
  f295 := Yba.func16.trans (congrArg some (by kernel_rfl))
  f296 := Yba.func17.trans (congrArg some (by kernel_rfl))
  f297 := Yba.func18.trans (congrArg some (by kernel_rfl))
  f298 := Yba.func19.trans (congrArg some (by kernel_rfl))
  f299 := Yba.func20.trans (congrArg some (by kernel_rfl))
  f300 := Yba.func22.trans (congrArg some (by kernel_rfl))
  f301 := Yba.func23.trans (congrArg some (by kernel_rfl))
  f328 := Yba.func26.trans (congrArg some (by kernel_rfl))
  f329 := Yba.func27.trans (congrArg some (by kernel_rfl))
  f330 := Yba.func28.trans (congrArg some (by kernel_rfl))
  f331 := Yba.func29.trans (congrArg some (by kernel_rfl))
  f332 := Yba.func30.trans (congrArg some (by kernel_rfl))
  f343 := Yba.func32.trans (congrArg some (by kernel_rfl))
  t0 := Yba.underlying0
  a0 := Yba.isAgg0
  z0 := Yba.sizeOf0
  v0 := Yba.zeroValue0
  t3 := Yba.underlying3
  a3 := Yba.isAgg3
  z3 := Yba.sizeOf3
  v3 := Yba.zeroValue3
  t4 := Yba.underlying4
  a4 := Yba.isAgg4
  z4 := Yba.sizeOf4
  v4 := Yba.zeroValue4
  t5 := Yba.underlying5
  a5 := Yba.isAgg5
  z5 := Yba.sizeOf5
  v5 := Yba.zeroValue5
  t9 := Yba.underlying9
  a9 := Yba.isAgg9
  z9 := Yba.sizeOf9
  v9 := Yba.zeroValue9
  t28 := Yba.underlying38
  a28 := Yba.isAgg38
  z28 := Yba.sizeOf38
  v28 := Yba.zeroValue38
  t46 := Yba.underlying47
  a46 := Yba.isAgg47
  z46 := Yba.sizeOf47
  v46 := Yba.zeroValue47
  t51 := Yba.underlying57
  a51 := Yba.isAgg57
  z51 := Yba.sizeOf57
  v51 := Yba.zeroValue57
  t53 := Yba.underlying30
  a53 := Yba.isAgg30
  z53 := Yba.sizeOf30
  v53 := Yba.zeroValue30
  t131 := Yba.underlying42
  a131 := Yba.isAgg42
  z131 := Yba.sizeOf42
  v131 := Yba.zeroValue42
  t182 := Yba.underlying49
  a182 := Yba.isAgg49
  z182 := Yba.sizeOf49
  v182 := Yba.zeroValue49
  t183 := Yba.underlying50
  a183 := Yba.isAgg50
  z183 := Yba.sizeOf50
  v183 := Yba.zeroValue50
  t218 := Yba.underlying59
  a218 := Yba.isAgg59
  z218 := Yba.sizeOf59
  v218 := Yba.zeroValue59
  t222 := Yba.underlying63
  a222 := Yba.isAgg63
  z222 := Yba.sizeOf63
  v222 := Yba.zeroValue63
  t228 := Yba.underlying66
  a228 := Yba.isAgg66
  z228 := Yba.sizeOf66
  v228 := Yba.zeroValue66
  t229 := Yba.underlying67
  a229 := Yba.isAgg67
  z229 := Yba.sizeOf67
  v229 := Yba.zeroValue67 }
open Go.Sort Go.RowKit in
theorem Yba.slices_Sort_int (blk off cap : Nat) (zs : List Int) (w : World) (hH : Holds (Value.int .i64) w blk off zs.toArray) (hblk : blk < w.heap.size) (hsz : zs.length < 4611686018427387904) :
    Calls Yba.prog 9 #[.slice (some ⟨blk, off, none⟩) zs.length cap] w fun e w' =>
      e = .returned (.tuple #[]) ∧ ∃ n os, w' = grow (putRow (Value.int .i64) (Sort.ahead w n) blk off (zs.mergeSort fun x y => decide (x ≤ y)).toArray) os := Any.slices_Sort_int Yba.lays189 blk off cap zs w hH hblk hsz
def Yba.laysNm220_ren : Go.Shelf.Ren := ⟨fun | 20 => 10 | n => n, fun | 22 => 38 | 3 => 3 | 4 => 4 | 0 => 0 | n => n, fun | n => n⟩
theorem Yba.laysNm220 : Go.Proofs.Lays2.n20 Yba.prog Yba.laysNm220_ren := {
  mixed := by kernel_rfl
  f20 := Yba.func10.trans (congrArg some (by kernel_rfl))
  t0 := Yba.underlying0
  a0 := Yba.isAgg0
  z0 := Yba.sizeOf0
  v0 := Yba.zeroValue0
  t3 := Yba.underlying3
  a3 := Yba.isAgg3
  z3 := Yba.sizeOf3
  v3 := Yba.zeroValue3
  t4 := Yba.underlying4
  a4 := Yba.isAgg4
  z4 := Yba.sizeOf4
  v4 := Yba.zeroValue4
  t22 := Yba.underlying38
  a22 := Yba.isAgg38
  z22 := Yba.sizeOf38
  v22 := Yba.zeroValue38
  i3 := by kernel_rfl }
open Go.RowKit Go.Lib Go.Sort in
theorem Yba.slices_Compact_int (blk off cap : Nat) (zs : List Int) (w : World) (hH : Holds (Value.int .i64) w blk off zs.toArray) (hsz : zs.length ≤ 9223372036854775807) (hcap : zs.length ≤ cap) :
    Calls Yba.prog 10 #[.slice (some ⟨blk, off, none⟩) zs.length cap] w fun e w' => e = .returned (.slice (some ⟨blk, off, none⟩) (Lib.compact zs).length cap) ∧ ∃ q, w' = putRow (Value.int .i64) (Sort.ahead w q) blk off (Lib.compact zs ++ List.replicate (zs.length - (Lib.compact zs).length) 0).toArray := Any.slices_Compact_int Yba.laysNm220 blk off cap zs w hH hsz hcap
end Go.Proofs
