import Derived.Test.Qxb6000582aRows
import Derived.Shelf.Sort.Plain
import Derived.Ground.Names2Prog
import Derived.Shelf.Slices.Clone
import Derived.Shelf.Slices.CompactI
import Derived.Shelf.Slices.In.SortNone
namespace Go.Proofs
open Go.Shelf
def Try.lays189_ren : Go.Shelf.Ren := ⟨fun | 189 => 26 | 125 => 29 | 257 => 28 | 128 => 39 | 129 => 40 | 294 => 30 | 295 => 31 | 296 => 32 | 297 => 33 | 298 => 34 | 299 => 35 | 216 => 36 | 300 => 37 | 301 => 38 | 328 => 41 | 329 => 42 | 330 => 43 | 331 => 44 | 332 => 45 | 215 => 46 | 343 => 47 | n => n, fun | 28 => 37 | 3 => 3 | 46 => 45 | 0 => 0 | 51 => 56 | 53 => 58 | 4 => 4 | 183 => 48 | 182 => 47 | 131 => 53 | 5 => 5 | 9 => 9 | 218 => 59 | 222 => 63 | 228 => 66 | 229 => 67 | n => n, fun | n => n⟩
theorem Try.lays189 : Go.Proofs.Lays.n189 Try.prog Try.lays189_ren := {
  mixed := by kernel_rfl
  f125 := Try.func29.trans (congrArg some (by kernel_rfl))
  f128 := Try.func39.trans (congrArg some (by kernel_rfl))
  f129 := Try.func40.trans (congrArg some (by kernel_rfl))
  f189 := Try.func26.trans (congrArg some (by kernel_rfl))
  f215 := Try.func46.trans (congrArg some (by kernel_rfl))
  f216 := Try.func36.trans (congrArg some (by kernel_rfl))
  f257 := Try.func28.trans (congrArg some (by kernel_rfl))
  f294 := Try.func30.trans (congrArg some (by kernel_rfl))
  f295 := Try.func31.trans (congrArg some (by kernel_rfl))
  f296 := Try.func32.trans (congrArg some (by kernel_rfl))
  f297 := Try.func33.trans (congrArg some (by kernel_rfl))
  f298 := Try.func34.trans (congrArg some (by kernel_rfl))
  f299 := Try.func35.trans (congrArg some (by kernel_rfl))
  f300 := Try.func37.trans (congrArg some (by kernel_rfl))
  f301 := Try.func38.trans (congrArg some (by kernel_rfl))
  f328 := Try.func41.trans (congrArg some (by kernel_rfl))
  f329 := Try.func42.trans (congrArg some (by kernel_rfl))
  f330 := Try.func43.trans (congrArg some (by kernel_rfl))
  f331 := Try.func44.trans (congrArg some (by kernel_rfl))
  f332 := Try.func45.trans (congrArg some (by kernel_rfl))
  f343 := Try.func47.trans (congrArg some (by kernel_rfl))
  t0 := Try.underlying0
  a0 := Try.isAgg0
  z0 := Try.sizeOf0
  v0 := Try.zeroValue0
  t3 := Try.underlying3
  a3 := Try.isAgg3
  z3 := Try.sizeOf3
  v3 := Try.zeroValue3
  t4 := Try.underlying4
  a4 := Try.isAgg4
  z4 := Try.sizeOf4
  v4 := Try.zeroValue4
  t5 := Try.underlying5
  a5 := Try.isAgg5
  z5 := Try.sizeOf5
  v5 := Try.zeroValue5
  t9 := Try.underlying9
  a9 := Try.isAgg9
  z9 := Try.sizeOf9
  v9 := Try.zeroValue9
  t28 := Try.underlying37
  a28 := Try.isAgg37
  z28 := Try.sizeOf37
  v28 := Try.zeroValue37
  t46 := Try.underlying45
  a46 := Try.isAgg45
  z46 := Try.sizeOf45
  v46 := Try.zeroValue45
  t51 := Try.underlying56
  a51 := Try.isAgg56
  z51 := Try.sizeOf56
  v51 := Try.zeroValue56
  t53 := Try.underlying58
  a53 := Try.isAgg58
  z53 := Try.sizeOf58
  v53 := Try.zeroValue58
  t131 := Try.underlying53
  a131 := Try.isAgg53
  z131 := Try.sizeOf53
  v131 := Try.zeroValue53
  t182 := Try.underlying47
  a182 := Try.isAgg47
  z182 := Try.sizeOf47
  v182 := Try.zeroValue47
  t183 := Try.underlying48
  a183 := Try.isAgg48
  z183 := Try.sizeOf48
  v183 := Try.zeroValue48
  t218 := Try.underlying59
  a218 := Try.isAgg59
  z218 := Try.sizeOf59
  v218 := Try.zeroValue59
  t222 := Try.underlying63
  a222 := Try.isAgg63
  z222 := Try.sizeOf63
  v222 := Try.zeroValue63
  t228 := Try.underlying66
  a228 := Try.isAgg66
  z228 := Try.sizeOf66
  v228 := Try.zeroValue66
  t229 := Try.underlying67
  a229 := Try.isAgg67
  z229 := Try.sizeOf67
  v229 := Try.zeroValue67 }
open Go.Sort Go.RowKit in
theorem Try.slices_Sort_int (blk off cap : Nat) (zs : List Int) (w : World) (hH : Holds (Value.int .i64) w blk off zs.toArray) (hblk : blk < w.heap.size) (hsz : zs.length < 4611686018427387904) :
    Calls Try.prog 26 #[.slice (some ⟨blk, off, none⟩) zs.length cap] w fun e w' =>
      e = .returned (.tuple #[]) ∧ ∃ n os, w' = grow (putRow (Value.int .i64) (Sort.ahead w n) blk off (zs.mergeSort fun x y => decide (x ≤ y)).toArray) os := Any.slices_Sort_int Try.lays189 blk off cap zs w hH hblk hsz
def Try.laysNm215_ren : Go.Shelf.Ren := ⟨fun | 15 => 25 | n => n, fun | 22 => 37 | 3 => 3 | 4 => 4 | n => n, fun | n => n⟩
theorem Try.laysNm215 : Go.Proofs.Lays2.n15 Try.prog Try.laysNm215_ren := {
  mixed := by kernel_rfl
  f15 := Try.func25.trans (congrArg some (by kernel_rfl))
  t3 := Try.underlying3
  a3 := Try.isAgg3
  z3 := Try.sizeOf3
  v3 := Try.zeroValue3
  t4 := Try.underlying4
  a4 := Try.isAgg4
  z4 := Try.sizeOf4
  v4 := Try.zeroValue4
  t22 := Try.underlying37
  a22 := Try.isAgg37
  z22 := Try.sizeOf37
  v22 := Try.zeroValue37
  i3 := by kernel_rfl }
open Go.RowKit Go.Lib in
theorem Try.slices_Clone_int (b off n c : Nat) (zs : List Int) (w : World) (hz : n ≤ zs.length) (hbig : n * 8 ≤ 140737488355328) (hc : ∀ j, j < zs.length → w.cell? ⟨b, off + j, none⟩ = some (.int .i64 (zs.getD j 0))) :
    Calls Try.prog 25 #[.slice (some ⟨b, off, none⟩) n c] w fun e w' => ∃ v', e = .returned v' ∧ w'.ownsRow w.heap.size 3 1 v' n ((zs.take n).map (Value.int .i64)) ∧ v' ≠ .slice none 0 0 ∧ Below w.heap.size w w' := Any.slices_Clone_int Try.laysNm215 b off n c zs w hz hbig hc
open Go.RowKit Go.Lib in
theorem Try.slices_Clone_int_nil (n c : Nat) (w : World) :
    Calls Try.prog 25 #[.slice none n c] w fun e w' => e = .returned (.slice none 0 0) ∧ w' = w := Any.slices_Clone_int_nil Try.laysNm215 n c w
open Go.RowKit Go.Lib in
theorem Try.slices_Clone_int_zero (a : Addr) (c : Nat) (w : World) :
    Calls Try.prog 25 #[.slice (some a) 0 c] w fun e w' => ∃ v', e = .returned v' ∧ w'.ownsRow w.heap.size 3 1 v' 0 [] ∧ v' ≠ .slice none 0 0 ∧ Below w.heap.size w w' := Any.slices_Clone_int_zero Try.laysNm215 a c w
def Try.laysNm220_ren : Go.Shelf.Ren := ⟨fun | 20 => 27 | n => n, fun | 22 => 37 | 3 => 3 | 4 => 4 | 0 => 0 | n => n, fun | n => n⟩
theorem Try.laysNm220 : Go.Proofs.Lays2.n20 Try.prog Try.laysNm220_ren := {
  mixed := by kernel_rfl
  f20 := Try.func27.trans (congrArg some (by kernel_rfl))
  t0 := Try.underlying0
  a0 := Try.isAgg0
  z0 := Try.sizeOf0
  v0 := Try.zeroValue0
  t3 := Try.underlying3
  a3 := Try.isAgg3
  z3 := Try.sizeOf3
  v3 := Try.zeroValue3
  t4 := Try.underlying4
  a4 := Try.isAgg4
  z4 := Try.sizeOf4
  v4 := Try.zeroValue4
  t22 := Try.underlying37
  a22 := Try.isAgg37
  z22 := Try.sizeOf37
  v22 := Try.zeroValue37
  i3 := by kernel_rfl }
open Go.RowKit Go.Lib Go.Sort in
theorem Try.slices_Compact_int (blk off cap : Nat) (zs : List Int) (w : World) (hH : Holds (Value.int .i64) w blk off zs.toArray) (hsz : zs.length ≤ 9223372036854775807) (hcap : zs.length ≤ cap) :
    Calls Try.prog 27 #[.slice (some ⟨blk, off, none⟩) zs.length cap] w fun e w' => e = .returned (.slice (some ⟨blk, off, none⟩) (Lib.compact zs).length cap) ∧ ∃ q, w' = putRow (Value.int .i64) (Sort.ahead w q) blk off (Lib.compact zs ++ List.replicate (zs.length - (Lib.compact zs).length) 0).toArray := Any.slices_Compact_int Try.laysNm220 blk off cap zs w hH hsz hcap
open Go.RowKit Go.Lib Go.Sort in
theorem Try.slices_Compact_int_empty (a : Option Addr) (cap : Nat) (w : World) :
    Calls Try.prog 27 #[.slice a 0 cap] w fun e w' => e = .returned (.slice a 0 cap) ∧ w' = w := Any.slices_Compact_int_empty Try.laysNm220 a cap w
open Go.RowKit Go.Sort in
theorem Try.slices_Sort_int_none (p : Option Addr) (cap : Nat) (w : World) :
    Calls Try.prog 26 #[.slice p 0 cap] w fun e w' => e = .returned (.tuple #[]) ∧ w' = w := Any.slices_Sort_int_none Try.lays189 p cap w
end Go.Proofs
