/-
  DERIVED: THE SHELF's CONTRACTS AT THIS DUMP, IN PLAIN WORDS (tools/lay-plain.mjs out of 'TryzShelf.lean', which tools/lay-shelf.mjs wrote): THE SAME DECLARATIONS UNDER THE SAME NAMES: 'import', 'namespace', 'open', 'def', 'theorem' AND NOTHING ELSE: no command of the shelf's: FOR A HAND-IN. Each laying: the table of numbers ('.._ren') and one theorem, a field a fact of the dump's own or the kernel's comparison; each contract: ONE APPLICATION.
-/
import Derived.Shelf.Small.Bits
import Derived.Shelf.Small.Wraps
import Derived.Shelf.Strconv.Itoa0
import Derived.Ground.Names2Prog
import Derived.Shelf.Slices.Clone
import Derived.Shelf.Slices.SearchI
import Derived.Ground.GgsProg
import Derived.Shelf.SlSortFunc.Xorshift
import Derived.Ground.SlgnProg
import Derived.Shelf.SlicesG.Clone
import Derived.Shelf.SlicesG.CompactI
import Derived.Shelf.SlicesG.SearchI
import Derived.Shelf.SlicesE.Clone
import Derived.Ground.SlsfProg
import Derived.Shelf.SlSortCmp.Insertion
import Derived.Shelf.SlicesQ.Reverse
import Derived.Ground.SlgmProg
import Derived.Shelf.SortM.Plain
import Derived.Shelf.SortM.SortNone
import Derived.Shelf.SlSortCmp.InsertionK
import Derived.Shelf.SlSortCmp.SiftDownK
import Derived.Shelf.SlSortCmp.HeapSortK
import Derived.Shelf.SlSortCmp.MedianK
import Derived.Shelf.SlSortCmp.PivotK
import Derived.Shelf.SlSortCmp.ReverseRangeK
import Derived.Shelf.SlSortCmp.PartialInsertionK
import Derived.Shelf.SlSortCmp.PartitionEqualK
import Derived.Shelf.SlSortCmp.PartitionK
import Derived.Shelf.SlSortCmp.PdqK
import Derived.Shelf.SlSortCmp.WholeK
import Derived.Shelf.SlSortCmp.SiftDown1
import Derived.Shelf.SlSortCmp.HeapSort1
import Derived.Shelf.SlSortCmp.Insertion1
import Derived.Shelf.SlSortCmp.Median1
import Derived.Shelf.SlSortCmp.Pivot1
import Derived.Shelf.SlSortCmp.ReverseRange1
import Derived.Shelf.SlSortCmp.PartialInsertion1
import Derived.Shelf.SlSortCmp.PartitionEqual1
import Derived.Shelf.SlSortCmp.Partition1
import Derived.Shelf.SlSortCmp.Pdq1
import Derived.Shelf.SlSortCmp.Whole1
import Derived.Shelf.SlSortCmp.NoneTotal
import Derived.Test.YtdaccgelmcmfjaaGreatDoorProg
set_option linter.all false
namespace Go.Proofs
open Go.Shelf
def Tryz.laysNm215_ren : Go.Shelf.Ren := ⟨fun | 15 => 68 | n => n, fun | 22 => 22 | 3 => 3 | 4 => 4 | n => n, fun | n => n⟩
theorem Tryz.laysNm215 : Go.Proofs.Lays2.n15 Tryz.prog Tryz.laysNm215_ren := {
  mixed := by kernel_rfl
  f15 := Tryz.func68.trans (congrArg some (by kernel_rfl))
  t3 := Tryz.underlying3
  a3 := Tryz.isAgg3
  z3 := Tryz.sizeOf3
  v3 := Tryz.zeroValue3
  t4 := Tryz.underlying4
  a4 := Tryz.isAgg4
  z4 := Tryz.sizeOf4
  v4 := Tryz.zeroValue4
  t22 := Tryz.underlying22
  a22 := Tryz.isAgg22
  z22 := Tryz.sizeOf22
  v22 := Tryz.zeroValue22
  i3 := by kernel_rfl }
open Go.RowKit Go.Lib in
theorem Tryz.slices_Clone_int (b off n c : Nat) (zs : List Int) (w : World) (hz : n ≤ zs.length) (hbig : n * 8 ≤ 140737488355328) (hc : ∀ j, j < zs.length → w.cell? ⟨b, off + j, none⟩ = some (.int .i64 (zs.getD j 0))) :
    Calls Tryz.prog 68 #[.slice (some ⟨b, off, none⟩) n c] w fun e w' => ∃ v', e = .returned v' ∧ w'.ownsRow w.heap.size 3 1 v' n ((zs.take n).map (Value.int .i64)) ∧ v' ≠ .slice none 0 0 ∧ Below w.heap.size w w' := Any.slices_Clone_int Tryz.laysNm215 b off n c zs w hz hbig hc
open Go.RowKit Go.Lib in
theorem Tryz.slices_Clone_int_nil (n c : Nat) (w : World) :
    Calls Tryz.prog 68 #[.slice none n c] w fun e w' => e = .returned (.slice none 0 0) ∧ w' = w := Any.slices_Clone_int_nil Tryz.laysNm215 n c w
def Tryz.laysSlN41_f72_ren : Go.Shelf.Ren := ⟨fun | 41 => 72 | n => n, fun | 22 => 156 | 23 => 2 | 4 => 4 | n => n, fun | n => n⟩
theorem Tryz.laysSlN41_f72 : Go.Proofs.SlLaysN.n41 Tryz.prog Tryz.laysSlN41_f72_ren := {
  mixed := by kernel_rfl
  f41 := ⟨Tryz.f72.name, by decide, Tryz.func72.trans (congrArg some (by kernel_rfl))⟩
  t4 := Tryz.underlying4
  a4 := Tryz.isAgg4
  z4 := Tryz.sizeOf4
  v4 := Tryz.zeroValue4
  t22 := Tryz.underlying156
  a22 := Tryz.isAgg156
  z22 := Tryz.sizeOf156
  v22 := Tryz.zeroValue156
  t23 := Tryz.underlying2
  a23 := Tryz.isAgg2
  z23 := Tryz.sizeOf2
  v23 := Tryz.zeroValue2
  i23 := by kernel_rfl }
open Go.RowKit Go.Lib in
theorem Tryz.slices_Clone_int_f72 (b off n c : Nat) (zs : List Int) (w : World) (hz : n ≤ zs.length) (hbig : n * 8 ≤ 140737488355328) (hc : ∀ j, j < zs.length → w.cell? ⟨b, off + j, none⟩ = some (.int .i64 (zs.getD j 0))) :
    Calls Tryz.prog 72 #[.slice (some ⟨b, off, none⟩) n c] w fun e w' => ∃ v', e = .returned v' ∧ w'.ownsRow w.heap.size 2 1 v' n ((zs.take n).map (Value.int .i64)) ∧ v' ≠ .slice none 0 0 ∧ Below w.heap.size w w' := AnyG.slices_Clone_int Tryz.laysSlN41_f72 b off n c zs w hz hbig hc
open Go.RowKit Go.Lib in
theorem Tryz.slices_Clone_int_nil_f72 (n c : Nat) (w : World) :
    Calls Tryz.prog 72 #[.slice none n c] w fun e w' => e = .returned (.slice none 0 0) ∧ w' = w := AnyG.slices_Clone_int_nil Tryz.laysSlN41_f72 n c w
def Tryz.laysSlN43_f71_ren : Go.Shelf.Ren := ⟨fun | 43 => 71 | n => n, fun | 22 => 156 | 23 => 2 | 3 => 3 | 4 => 4 | 0 => 0 | n => n, fun | n => n⟩
theorem Tryz.laysSlN43_f71 : Go.Proofs.SlLaysN.n43 Tryz.prog Tryz.laysSlN43_f71_ren := {
  mixed := by kernel_rfl
  f43 := ⟨Tryz.f71.name, by decide, Tryz.func71.trans (congrArg some (by kernel_rfl))⟩
  t0 := Tryz.underlying0
  a0 := Tryz.isAgg0
  z0 := Tryz.sizeOf0
  v0 := Tryz.zeroValue0
  t3 := Tryz.underlying3
  a3 := Tryz.isAgg3
  z3 := Tryz.sizeOf3
  v3 := Tryz.zeroValue3
  t4 := Tryz.underlying4
  a4 := Tryz.isAgg4
  z4 := Tryz.sizeOf4
  v4 := Tryz.zeroValue4
  t22 := Tryz.underlying156
  a22 := Tryz.isAgg156
  z22 := Tryz.sizeOf156
  v22 := Tryz.zeroValue156
  t23 := Tryz.underlying2
  a23 := Tryz.isAgg2
  z23 := Tryz.sizeOf2
  v23 := Tryz.zeroValue2
  i23 := by kernel_rfl }
open Go.RowKit Go.Lib Go.Sort in
theorem Tryz.slices_Compact_int (blk off cap : Nat) (zs : List Int) (w : World) (hH : Holds (Value.int .i64) w blk off zs.toArray) (hsz : zs.length ≤ 9223372036854775807) (hcap : zs.length ≤ cap) :
    Calls Tryz.prog 71 #[.slice (some ⟨blk, off, none⟩) zs.length cap] w fun e w' => e = .returned (.slice (some ⟨blk, off, none⟩) (Lib.compact zs).length cap) ∧ ∃ q, w' = putRow (Value.int .i64) (Sort.ahead w q) blk off (Lib.compact zs ++ List.replicate (zs.length - (Lib.compact zs).length) 0).toArray := AnyG.slices_Compact_int Tryz.laysSlN43_f71 blk off cap zs w hH hsz hcap
open Go.RowKit Go.Lib Go.Sort in
theorem Tryz.slices_Compact_int_empty (a : Option Addr) (cap : Nat) (w : World) :
    Calls Tryz.prog 71 #[.slice a 0 cap] w fun e w' => e = .returned (.slice a 0 cap) ∧ w' = w := AnyG.slices_Compact_int_empty Tryz.laysSlN43_f71 a cap w
def Tryz.laysSlM5_f70_ren : Go.Shelf.Ren := ⟨fun | 5 => 70 | 8 => 44 | 7 => 119 | 19 => 84 | 20 => 85 | 10 => 158 | 11 => 159 | 12 => 160 | 13 => 161 | 14 => 162 | 15 => 163 | 16 => 164 | 17 => 165 | 18 => 166 | 30 => 193 | 31 => 124 | 32 => 125 | 33 => 194 | 34 => 195 | 35 => 174 | 40 => 213 | n => n, fun | 23 => 156 | 25 => 2 | 3 => 3 | 32 => 117 | 22 => 156 | 0 => 0 | 44 => 174 | 46 => 176 | 4 => 4 | 36 => 168 | 35 => 167 | 41 => 34 | 5 => 5 | 9 => 9 | 53 => 214 | 57 => 218 | 63 => 260 | 64 => 261 | n => n, fun | n => n⟩
theorem Tryz.laysSlM5_f70 : Go.Proofs.SlLaysM.n5 Tryz.prog Tryz.laysSlM5_f70_ren := {
  mixed := by kernel_rfl
  f5 := ⟨Tryz.f70.name, by decide, Tryz.func70.trans (congrArg some (by kernel_rfl))⟩
  f7 := ⟨Tryz.f119.name, by decide, Tryz.func119.trans (congrArg some (by kernel_rfl))⟩
  f8 := Tryz.func44.trans (congrArg some (by kernel_rfl))
  f10 := ⟨Tryz.f158.name, by decide, Tryz.func158.trans (congrArg some (by kernel_rfl))⟩
  f11 := ⟨Tryz.f159.name, by decide, Tryz.func159.trans (congrArg some (by kernel_rfl))⟩
  f12 := ⟨Tryz.f160.name, by decide, Tryz.func160.trans (congrArg some (by kernel_rfl))⟩
  f13 := ⟨Tryz.f161.name, by decide, Tryz.func161.trans (congrArg some (by kernel_rfl))⟩
  f14 := ⟨Tryz.f162.name, by decide, Tryz.func162.trans (congrArg some (by kernel_rfl))⟩
  f15 := ⟨Tryz.f163.name, by decide, Tryz.func163.trans (congrArg some (by kernel_rfl))⟩
  f16 := ⟨Tryz.f164.name, by decide, Tryz.func164.trans (congrArg some (by kernel_rfl))⟩
  f17 := ⟨Tryz.f165.name, by decide, Tryz.func165.trans (congrArg some (by kernel_rfl))⟩
  f18 := ⟨Tryz.f166.name, by decide, Tryz.func166.trans (congrArg some (by kernel_rfl))⟩
  f19 := Tryz.func84.trans (congrArg some (by kernel_rfl))
  f20 := Tryz.func85.trans (congrArg some (by kernel_rfl))
  f30 := ⟨Tryz.f193.name, by decide, Tryz.func193.trans (congrArg some (by kernel_rfl))⟩
  f31 := Tryz.func124.trans (congrArg some (by kernel_rfl))
  f32 := Tryz.func125.trans (congrArg some (by kernel_rfl))
  f33 := ⟨Tryz.f194.name, by decide, Tryz.func194.trans (congrArg some (by kernel_rfl))⟩
  f34 := ⟨Tryz.f195.name, by decide, Tryz.func195.trans (congrArg some (by kernel_rfl))⟩
  f35 := ⟨Tryz.f174.name, by decide, Tryz.func174.trans (congrArg some (by kernel_rfl))⟩
  f40 := ⟨Tryz.f213.name, by decide, Tryz.func213.trans (congrArg some (by kernel_rfl))⟩
  t0 := Tryz.underlying0
  a0 := Tryz.isAgg0
  z0 := Tryz.sizeOf0
  v0 := Tryz.zeroValue0
  t3 := Tryz.underlying3
  a3 := Tryz.isAgg3
  z3 := Tryz.sizeOf3
  v3 := Tryz.zeroValue3
  t4 := Tryz.underlying4
  a4 := Tryz.isAgg4
  z4 := Tryz.sizeOf4
  v4 := Tryz.zeroValue4
  t5 := Tryz.underlying5
  a5 := Tryz.isAgg5
  z5 := Tryz.sizeOf5
  v5 := Tryz.zeroValue5
  t9 := Tryz.underlying9
  a9 := Tryz.isAgg9
  z9 := Tryz.sizeOf9
  v9 := Tryz.zeroValue9
  t22 := Tryz.underlying156
  a22 := Tryz.isAgg156
  z22 := Tryz.sizeOf156
  v22 := Tryz.zeroValue156
  t23 := Tryz.underlying156
  a23 := Tryz.isAgg156
  z23 := Tryz.sizeOf156
  v23 := Tryz.zeroValue156
  t25 := Tryz.underlying2
  a25 := Tryz.isAgg2
  z25 := Tryz.sizeOf2
  v25 := Tryz.zeroValue2
  t32 := Tryz.underlying117
  a32 := Tryz.isAgg117
  z32 := Tryz.sizeOf117
  v32 := Tryz.zeroValue117
  t35 := Tryz.underlying167
  a35 := Tryz.isAgg167
  z35 := Tryz.sizeOf167
  v35 := Tryz.zeroValue167
  t36 := Tryz.underlying168
  a36 := Tryz.isAgg168
  z36 := Tryz.sizeOf168
  v36 := Tryz.zeroValue168
  t41 := Tryz.underlying34
  a41 := Tryz.isAgg34
  z41 := Tryz.sizeOf34
  v41 := Tryz.zeroValue34
  t44 := Tryz.underlying174
  a44 := Tryz.isAgg174
  z44 := Tryz.sizeOf174
  v44 := Tryz.zeroValue174
  t46 := Tryz.underlying176
  a46 := Tryz.isAgg176
  z46 := Tryz.sizeOf176
  v46 := Tryz.zeroValue176
  t53 := Tryz.underlying214
  a53 := Tryz.isAgg214
  z53 := Tryz.sizeOf214
  v53 := Tryz.zeroValue214
  t57 := Tryz.underlying218
  a57 := Tryz.isAgg218
  z57 := Tryz.sizeOf218
  v57 := Tryz.zeroValue218
  t63 := Tryz.underlying260
  a63 := Tryz.isAgg260
  z63 := Tryz.sizeOf260
  v63 := Tryz.zeroValue260
  t64 := Tryz.underlying261
  a64 := Tryz.isAgg261
  z64 := Tryz.sizeOf261
  v64 := Tryz.zeroValue261 }
open Go.Sort Go.RowKit in
theorem Tryz.slices_Sort_int (blk off cap : Nat) (zs : List Int) (w : World) (hH : Holds (Value.int .i64) w blk off zs.toArray) (hblk : blk < w.heap.size) (hsz : zs.length < 4611686018427387904) :
    Calls Tryz.prog 70 #[.slice (some ⟨blk, off, none⟩) zs.length cap] w fun e w' =>
      e = .returned (.tuple #[]) ∧ ∃ n os, w' = grow (putRow (Value.int .i64) (Sort.ahead w n) blk off (zs.mergeSort fun x y => decide (x ≤ y)).toArray) os := AnyM.slices_Sort_int Tryz.laysSlM5_f70 blk off cap zs w hH hblk hsz
open Go.RowKit Go.Sort in
theorem Tryz.slices_Sort_int_none (p : Option Addr) (cap : Nat) (w : World) :
    Calls Tryz.prog 70 #[.slice p 0 cap] w fun e w' => e = .returned (.tuple #[]) ∧ w' = w := AnyM.slices_Sort_int_none Tryz.laysSlM5_f70 p cap w
def Tryz.laysSlF06_f23_ren : Go.Shelf.Ren := ⟨fun | 6 => 23 | 15 => 44 | 14 => 43 | 28 => 84 | 29 => 85 | 20 => 76 | 21 => 77 | 22 => 78 | 23 => 79 | 24 => 80 | 25 => 81 | 26 => 82 | 27 => 83 | 46 => 123 | 47 => 124 | 48 => 125 | 49 => 126 | 50 => 127 | 57 => 171 | n => n, fun | 22 => 28 | 24 => 47 | 25 => 71 | 3 => 3 | 39 => 117 | 0 => 0 | 53 => 174 | 55 => 176 | 4 => 4 | 46 => 168 | 45 => 167 | 50 => 34 | 5 => 5 | 9 => 9 | 66 => 214 | 70 => 218 | 76 => 260 | 77 => 261 | n => n, fun | n => n⟩
theorem Tryz.laysSlF06_f23 : Go.Proofs.SlLaysF0.n6 Tryz.prog Tryz.laysSlF06_f23_ren := {
  mixed := by kernel_rfl
  f6 := ⟨Tryz.f23.name, by decide, Tryz.func23.trans (congrArg some (by kernel_rfl))⟩
  f14 := ⟨Tryz.f43.name, by decide, Tryz.func43.trans (congrArg some (by kernel_rfl))⟩
  f15 := Tryz.func44.trans (congrArg some (by kernel_rfl))
  f20 := ⟨Tryz.f76.name, by decide, Tryz.func76.trans (congrArg some (by kernel_rfl))⟩
  f21 := ⟨Tryz.f77.name, by decide, Tryz.func77.trans (congrArg some (by kernel_rfl))⟩
  f22 := ⟨Tryz.f78.name, by decide, Tryz.func78.trans (congrArg some (by kernel_rfl))⟩
  f23 := ⟨Tryz.f79.name, by decide, Tryz.func79.trans (congrArg some (by kernel_rfl))⟩
  f24 := ⟨Tryz.f80.name, by decide, Tryz.func80.trans (congrArg some (by kernel_rfl))⟩
  f25 := ⟨Tryz.f81.name, by decide, Tryz.func81.trans (congrArg some (by kernel_rfl))⟩
  f26 := ⟨Tryz.f82.name, by decide, Tryz.func82.trans (congrArg some (by kernel_rfl))⟩
  f27 := ⟨Tryz.f83.name, by decide, Tryz.func83.trans (congrArg some (by kernel_rfl))⟩
  f28 := Tryz.func84.trans (congrArg some (by kernel_rfl))
  f29 := Tryz.func85.trans (congrArg some (by kernel_rfl))
  f46 := ⟨Tryz.f123.name, by decide, Tryz.func123.trans (congrArg some (by kernel_rfl))⟩
  f47 := Tryz.func124.trans (congrArg some (by kernel_rfl))
  f48 := Tryz.func125.trans (congrArg some (by kernel_rfl))
  f49 := ⟨Tryz.f126.name, by decide, Tryz.func126.trans (congrArg some (by kernel_rfl))⟩
  f50 := ⟨Tryz.f127.name, by decide, Tryz.func127.trans (congrArg some (by kernel_rfl))⟩
  f57 := ⟨Tryz.f171.name, by decide, Tryz.func171.trans (congrArg some (by kernel_rfl))⟩
  t0 := Tryz.underlying0
  a0 := Tryz.isAgg0
  z0 := Tryz.sizeOf0
  v0 := Tryz.zeroValue0
  t3 := Tryz.underlying3
  a3 := Tryz.isAgg3
  z3 := Tryz.sizeOf3
  v3 := Tryz.zeroValue3
  t4 := Tryz.underlying4
  a4 := Tryz.isAgg4
  z4 := Tryz.sizeOf4
  v4 := Tryz.zeroValue4
  t5 := Tryz.underlying5
  a5 := Tryz.isAgg5
  z5 := Tryz.sizeOf5
  v5 := Tryz.zeroValue5
  t9 := Tryz.underlying9
  a9 := Tryz.isAgg9
  z9 := Tryz.sizeOf9
  v9 := Tryz.zeroValue9
  t22 := Tryz.underlying28
  a22 := Tryz.isAgg28
  z22 := Tryz.sizeOf28
  v22 := Tryz.zeroValue28
  t25 := Tryz.underlying71
  a25 := Tryz.isAgg71
  z25 := Tryz.sizeOf71
  v25 := Tryz.zeroValue71
  t39 := Tryz.underlying117
  a39 := Tryz.isAgg117
  z39 := Tryz.sizeOf117
  v39 := Tryz.zeroValue117
  t45 := Tryz.underlying167
  a45 := Tryz.isAgg167
  z45 := Tryz.sizeOf167
  v45 := Tryz.zeroValue167
  t46 := Tryz.underlying168
  a46 := Tryz.isAgg168
  z46 := Tryz.sizeOf168
  v46 := Tryz.zeroValue168
  t50 := Tryz.underlying34
  a50 := Tryz.isAgg34
  z50 := Tryz.sizeOf34
  v50 := Tryz.zeroValue34
  t53 := Tryz.underlying174
  a53 := Tryz.isAgg174
  z53 := Tryz.sizeOf174
  v53 := Tryz.zeroValue174
  t55 := Tryz.underlying176
  a55 := Tryz.isAgg176
  z55 := Tryz.sizeOf176
  v55 := Tryz.zeroValue176
  t66 := Tryz.underlying214
  a66 := Tryz.isAgg214
  z66 := Tryz.sizeOf214
  v66 := Tryz.zeroValue214
  t70 := Tryz.underlying218
  a70 := Tryz.isAgg218
  z70 := Tryz.sizeOf218
  v70 := Tryz.zeroValue218
  t76 := Tryz.underlying260
  a76 := Tryz.isAgg260
  z76 := Tryz.sizeOf260
  v76 := Tryz.zeroValue260
  t77 := Tryz.underlying261
  a77 := Tryz.isAgg261
  z77 := Tryz.sizeOf261
  v77 := Tryz.zeroValue261 }
def Tryz.laysSlF06_f24_ren : Go.Shelf.Ren := ⟨fun | 6 => 24 | 15 => 44 | 14 => 45 | 28 => 84 | 29 => 85 | 20 => 86 | 21 => 87 | 22 => 88 | 23 => 89 | 24 => 90 | 25 => 91 | 26 => 92 | 27 => 93 | 46 => 128 | 47 => 124 | 48 => 125 | 49 => 129 | 50 => 130 | 57 => 172 | n => n, fun | 22 => 29 | 24 => 49 | 25 => 74 | 3 => 3 | 39 => 117 | 0 => 0 | 53 => 174 | 55 => 176 | 4 => 4 | 46 => 168 | 45 => 167 | 50 => 34 | 5 => 5 | 9 => 9 | 66 => 214 | 70 => 218 | 76 => 260 | 77 => 261 | n => n, fun | n => n⟩
theorem Tryz.laysSlF06_f24 : Go.Proofs.SlLaysF0.n6 Tryz.prog Tryz.laysSlF06_f24_ren := {
  mixed := by kernel_rfl
  f6 := ⟨Tryz.f24.name, by decide, Tryz.func24.trans (congrArg some (by kernel_rfl))⟩
  f14 := ⟨Tryz.f45.name, by decide, Tryz.func45.trans (congrArg some (by kernel_rfl))⟩
  f15 := Tryz.func44.trans (congrArg some (by kernel_rfl))
  f20 := ⟨Tryz.f86.name, by decide, Tryz.func86.trans (congrArg some (by kernel_rfl))⟩
  f21 := ⟨Tryz.f87.name, by decide, Tryz.func87.trans (congrArg some (by kernel_rfl))⟩
  f22 := ⟨Tryz.f88.name, by decide, Tryz.func88.trans (congrArg some (by kernel_rfl))⟩
  f23 := ⟨Tryz.f89.name, by decide, Tryz.func89.trans (congrArg some (by kernel_rfl))⟩
  f24 := ⟨Tryz.f90.name, by decide, Tryz.func90.trans (congrArg some (by kernel_rfl))⟩
  f25 := ⟨Tryz.f91.name, by decide, Tryz.func91.trans (congrArg some (by kernel_rfl))⟩
  f26 := ⟨Tryz.f92.name, by decide, Tryz.func92.trans (congrArg some (by kernel_rfl))⟩
  f27 := ⟨Tryz.f93.name, by decide, Tryz.func93.trans (congrArg some (by kernel_rfl))⟩
  f28 := Tryz.func84.trans (congrArg some (by kernel_rfl))
  f29 := Tryz.func85.trans (congrArg some (by kernel_rfl))
  f46 := ⟨Tryz.f128.name, by decide, Tryz.func128.trans (congrArg some (by kernel_rfl))⟩
  f47 := Tryz.func124.trans (congrArg some (by kernel_rfl))
  f48 := Tryz.func125.trans (congrArg some (by kernel_rfl))
  f49 := ⟨Tryz.f129.name, by decide, Tryz.func129.trans (congrArg some (by kernel_rfl))⟩
  f50 := ⟨Tryz.f130.name, by decide, Tryz.func130.trans (congrArg some (by kernel_rfl))⟩
  f57 := ⟨Tryz.f172.name, by decide, Tryz.func172.trans (congrArg some (by kernel_rfl))⟩
  t0 := Tryz.underlying0
  a0 := Tryz.isAgg0
  z0 := Tryz.sizeOf0
  v0 := Tryz.zeroValue0
  t3 := Tryz.underlying3
  a3 := Tryz.isAgg3
  z3 := Tryz.sizeOf3
  v3 := Tryz.zeroValue3
  t4 := Tryz.underlying4
  a4 := Tryz.isAgg4
  z4 := Tryz.sizeOf4
  v4 := Tryz.zeroValue4
  t5 := Tryz.underlying5
  a5 := Tryz.isAgg5
  z5 := Tryz.sizeOf5
  v5 := Tryz.zeroValue5
  t9 := Tryz.underlying9
  a9 := Tryz.isAgg9
  z9 := Tryz.sizeOf9
  v9 := Tryz.zeroValue9
  t22 := Tryz.underlying29
  a22 := Tryz.isAgg29
  z22 := Tryz.sizeOf29
  v22 := Tryz.zeroValue29
  t25 := Tryz.underlying74
  a25 := Tryz.isAgg74
  z25 := Tryz.sizeOf74
  v25 := Tryz.zeroValue74
  t39 := Tryz.underlying117
  a39 := Tryz.isAgg117
  z39 := Tryz.sizeOf117
  v39 := Tryz.zeroValue117
  t45 := Tryz.underlying167
  a45 := Tryz.isAgg167
  z45 := Tryz.sizeOf167
  v45 := Tryz.zeroValue167
  t46 := Tryz.underlying168
  a46 := Tryz.isAgg168
  z46 := Tryz.sizeOf168
  v46 := Tryz.zeroValue168
  t50 := Tryz.underlying34
  a50 := Tryz.isAgg34
  z50 := Tryz.sizeOf34
  v50 := Tryz.zeroValue34
  t53 := Tryz.underlying174
  a53 := Tryz.isAgg174
  z53 := Tryz.sizeOf174
  v53 := Tryz.zeroValue174
  t55 := Tryz.underlying176
  a55 := Tryz.isAgg176
  z55 := Tryz.sizeOf176
  v55 := Tryz.zeroValue176
  t66 := Tryz.underlying214
  a66 := Tryz.isAgg214
  z66 := Tryz.sizeOf214
  v66 := Tryz.zeroValue214
  t70 := Tryz.underlying218
  a70 := Tryz.isAgg218
  z70 := Tryz.sizeOf218
  v70 := Tryz.zeroValue218
  t76 := Tryz.underlying260
  a76 := Tryz.isAgg260
  z76 := Tryz.sizeOf260
  v76 := Tryz.zeroValue260
  t77 := Tryz.underlying261
  a77 := Tryz.isAgg261
  z77 := Tryz.sizeOf261
  v77 := Tryz.zeroValue261 }
def Tryz.laysSlF06_f59_ren : Go.Shelf.Ren := ⟨fun | 6 => 59 | 15 => 44 | 14 => 112 | 28 => 84 | 29 => 85 | 20 => 146 | 21 => 147 | 22 => 148 | 23 => 149 | 24 => 150 | 25 => 151 | 26 => 152 | 27 => 153 | 46 => 187 | 47 => 124 | 48 => 125 | 49 => 188 | 50 => 189 | 57 => 210 | n => n, fun | 22 => 42 | 24 => 107 | 25 => 150 | 3 => 3 | 39 => 117 | 0 => 0 | 53 => 174 | 55 => 176 | 4 => 4 | 46 => 168 | 45 => 167 | 50 => 34 | 5 => 5 | 9 => 9 | 66 => 214 | 70 => 218 | 76 => 260 | 77 => 261 | n => n, fun | n => n⟩
theorem Tryz.laysSlF06_f59 : Go.Proofs.SlLaysF0.n6 Tryz.prog Tryz.laysSlF06_f59_ren := {
  mixed := by kernel_rfl
  f6 := ⟨Tryz.f59.name, by decide, Tryz.func59.trans (congrArg some (by kernel_rfl))⟩
  f14 := ⟨Tryz.f112.name, by decide, Tryz.func112.trans (congrArg some (by kernel_rfl))⟩
  f15 := Tryz.func44.trans (congrArg some (by kernel_rfl))
  f20 := ⟨Tryz.f146.name, by decide, Tryz.func146.trans (congrArg some (by kernel_rfl))⟩
  f21 := ⟨Tryz.f147.name, by decide, Tryz.func147.trans (congrArg some (by kernel_rfl))⟩
  f22 := ⟨Tryz.f148.name, by decide, Tryz.func148.trans (congrArg some (by kernel_rfl))⟩
  f23 := ⟨Tryz.f149.name, by decide, Tryz.func149.trans (congrArg some (by kernel_rfl))⟩
  f24 := ⟨Tryz.f150.name, by decide, Tryz.func150.trans (congrArg some (by kernel_rfl))⟩
  f25 := ⟨Tryz.f151.name, by decide, Tryz.func151.trans (congrArg some (by kernel_rfl))⟩
  f26 := ⟨Tryz.f152.name, by decide, Tryz.func152.trans (congrArg some (by kernel_rfl))⟩
  f27 := ⟨Tryz.f153.name, by decide, Tryz.func153.trans (congrArg some (by kernel_rfl))⟩
  f28 := Tryz.func84.trans (congrArg some (by kernel_rfl))
  f29 := Tryz.func85.trans (congrArg some (by kernel_rfl))
  f46 := ⟨Tryz.f187.name, by decide, Tryz.func187.trans (congrArg some (by kernel_rfl))⟩
  f47 := Tryz.func124.trans (congrArg some (by kernel_rfl))
  f48 := Tryz.func125.trans (congrArg some (by kernel_rfl))
  f49 := ⟨Tryz.f188.name, by decide, Tryz.func188.trans (congrArg some (by kernel_rfl))⟩
  f50 := ⟨Tryz.f189.name, by decide, Tryz.func189.trans (congrArg some (by kernel_rfl))⟩
  f57 := ⟨Tryz.f210.name, by decide, Tryz.func210.trans (congrArg some (by kernel_rfl))⟩
  t0 := Tryz.underlying0
  a0 := Tryz.isAgg0
  z0 := Tryz.sizeOf0
  v0 := Tryz.zeroValue0
  t3 := Tryz.underlying3
  a3 := Tryz.isAgg3
  z3 := Tryz.sizeOf3
  v3 := Tryz.zeroValue3
  t4 := Tryz.underlying4
  a4 := Tryz.isAgg4
  z4 := Tryz.sizeOf4
  v4 := Tryz.zeroValue4
  t5 := Tryz.underlying5
  a5 := Tryz.isAgg5
  z5 := Tryz.sizeOf5
  v5 := Tryz.zeroValue5
  t9 := Tryz.underlying9
  a9 := Tryz.isAgg9
  z9 := Tryz.sizeOf9
  v9 := Tryz.zeroValue9
  t22 := Tryz.underlying42
  a22 := Tryz.isAgg42
  z22 := Tryz.sizeOf42
  v22 := Tryz.zeroValue42
  t25 := Tryz.underlying150
  a25 := Tryz.isAgg150
  z25 := Tryz.sizeOf150
  v25 := Tryz.zeroValue150
  t39 := Tryz.underlying117
  a39 := Tryz.isAgg117
  z39 := Tryz.sizeOf117
  v39 := Tryz.zeroValue117
  t45 := Tryz.underlying167
  a45 := Tryz.isAgg167
  z45 := Tryz.sizeOf167
  v45 := Tryz.zeroValue167
  t46 := Tryz.underlying168
  a46 := Tryz.isAgg168
  z46 := Tryz.sizeOf168
  v46 := Tryz.zeroValue168
  t50 := Tryz.underlying34
  a50 := Tryz.isAgg34
  z50 := Tryz.sizeOf34
  v50 := Tryz.zeroValue34
  t53 := Tryz.underlying174
  a53 := Tryz.isAgg174
  z53 := Tryz.sizeOf174
  v53 := Tryz.zeroValue174
  t55 := Tryz.underlying176
  a55 := Tryz.isAgg176
  z55 := Tryz.sizeOf176
  v55 := Tryz.zeroValue176
  t66 := Tryz.underlying214
  a66 := Tryz.isAgg214
  z66 := Tryz.sizeOf214
  v66 := Tryz.zeroValue214
  t70 := Tryz.underlying218
  a70 := Tryz.isAgg218
  z70 := Tryz.sizeOf218
  v70 := Tryz.zeroValue218
  t76 := Tryz.underlying260
  a76 := Tryz.isAgg260
  z76 := Tryz.sizeOf260
  v76 := Tryz.zeroValue260
  t77 := Tryz.underlying261
  a77 := Tryz.isAgg261
  z77 := Tryz.sizeOf261
  v77 := Tryz.zeroValue261 }
open Go.RowKit Go.Lib Go.Sort in
theorem Tryz.slices_SortFunc_f59 {α : Type} [Inhabited α] (k : Nat) (aE : ∀ w, (isAgg (Tryz.laysSlF06_f59_ren.t 24)).run Tryz.prog w = .ok true w) (zE : ∀ w, (Go.sizeOf (Tryz.laysSlF06_f59_ren.t 24)).run Tryz.prog w = .ok k w) (enc : α → List Value) (hk : ∀ x, (enc x).length = k) (h1 : ∀ x, ∀ v ∈ enc x, v.oneCell' = true) (cf : α → α → Int) (hO : SWO (ltOf cf)) (g : Nat) (cb : Array Value) (blk off cap : Nat) (d : Array α) (w : World) (eg : ∀ args w, (callFunc g args).run Tryz.prog w = .ok (.enter g args) w) (hcmp : CmpLays Tryz.prog g cb enc k cf blk off d.size w) (hH : HoldsK enc k w blk off d) (hblk : blk < w.heap.size) (hsz : d.size < 4611686018427387904) :
    Calls Tryz.prog 59 #[.slice (some ⟨blk, off, none⟩) d.size cap, .func (.func g) #[] cb] w fun e w' =>
      e = .returned (.tuple #[]) ∧ ∃ d' n os, PermIn 0 d.size d d' ∧ SortedIn (ltOf cf) 0 d.size d' ∧ w' = sortWorldK enc k w blk off n d' os := AnyQ.slices_SortFunc Tryz.laysSlF06_f59 k aE zE enc hk h1 cf hO g cb blk off cap d w eg hcmp hH hblk hsz
def Tryz.laysSlF6_f105_ren : Go.Shelf.Ren := ⟨fun | 6 => 105 | 15 => 44 | 14 => 142 | 28 => 84 | 29 => 85 | 20 => 179 | 21 => 180 | 22 => 181 | 23 => 182 | 24 => 183 | 25 => 184 | 26 => 185 | 27 => 186 | 46 => 207 | 47 => 124 | 48 => 125 | 49 => 208 | 50 => 209 | 57 => 218 | n => n, fun | 22 => 129 | 24 => 61 | 25 => 197 | 3 => 3 | 39 => 117 | 0 => 0 | 53 => 174 | 55 => 176 | 4 => 4 | 46 => 168 | 45 => 167 | 50 => 34 | 5 => 5 | 9 => 9 | 66 => 214 | 70 => 218 | 76 => 260 | 77 => 261 | n => n, fun | n => n⟩
theorem Tryz.laysSlF6_f105 : Go.Proofs.SlLaysF.n6 Tryz.prog Tryz.laysSlF6_f105_ren := {
  mixed := by kernel_rfl
  f6 := ⟨Tryz.f105.name, by decide, Tryz.func105.trans (congrArg some (by kernel_rfl))⟩
  f14 := ⟨Tryz.f142.name, by decide, Tryz.func142.trans (congrArg some (by kernel_rfl))⟩
  f15 := Tryz.func44.trans (congrArg some (by kernel_rfl))
  f20 := ⟨Tryz.f179.name, by decide, Tryz.func179.trans (congrArg some (by kernel_rfl))⟩
  f21 := ⟨Tryz.f180.name, by decide, Tryz.func180.trans (congrArg some (by kernel_rfl))⟩
  f22 := ⟨Tryz.f181.name, by decide, Tryz.func181.trans (congrArg some (by kernel_rfl))⟩
  f23 := ⟨Tryz.f182.name, by decide, Tryz.func182.trans (congrArg some (by kernel_rfl))⟩
  f24 := ⟨Tryz.f183.name, by decide, Tryz.func183.trans (congrArg some (by kernel_rfl))⟩
  f25 := ⟨Tryz.f184.name, by decide, Tryz.func184.trans (congrArg some (by kernel_rfl))⟩
  f26 := ⟨Tryz.f185.name, by decide, Tryz.func185.trans (congrArg some (by kernel_rfl))⟩
  f27 := ⟨Tryz.f186.name, by decide, Tryz.func186.trans (congrArg some (by kernel_rfl))⟩
  f28 := Tryz.func84.trans (congrArg some (by kernel_rfl))
  f29 := Tryz.func85.trans (congrArg some (by kernel_rfl))
  f46 := ⟨Tryz.f207.name, by decide, Tryz.func207.trans (congrArg some (by kernel_rfl))⟩
  f47 := Tryz.func124.trans (congrArg some (by kernel_rfl))
  f48 := Tryz.func125.trans (congrArg some (by kernel_rfl))
  f49 := ⟨Tryz.f208.name, by decide, Tryz.func208.trans (congrArg some (by kernel_rfl))⟩
  f50 := ⟨Tryz.f209.name, by decide, Tryz.func209.trans (congrArg some (by kernel_rfl))⟩
  f57 := ⟨Tryz.f218.name, by decide, Tryz.func218.trans (congrArg some (by kernel_rfl))⟩
  t0 := Tryz.underlying0
  a0 := Tryz.isAgg0
  z0 := Tryz.sizeOf0
  v0 := Tryz.zeroValue0
  t3 := Tryz.underlying3
  a3 := Tryz.isAgg3
  z3 := Tryz.sizeOf3
  v3 := Tryz.zeroValue3
  t4 := Tryz.underlying4
  a4 := Tryz.isAgg4
  z4 := Tryz.sizeOf4
  v4 := Tryz.zeroValue4
  t5 := Tryz.underlying5
  a5 := Tryz.isAgg5
  z5 := Tryz.sizeOf5
  v5 := Tryz.zeroValue5
  t9 := Tryz.underlying9
  a9 := Tryz.isAgg9
  z9 := Tryz.sizeOf9
  v9 := Tryz.zeroValue9
  t22 := Tryz.underlying129
  a22 := Tryz.isAgg129
  z22 := Tryz.sizeOf129
  v22 := Tryz.zeroValue129
  a24 := Tryz.isAgg61
  z24 := Tryz.sizeOf61
  t25 := Tryz.underlying197
  a25 := Tryz.isAgg197
  z25 := Tryz.sizeOf197
  v25 := Tryz.zeroValue197
  t39 := Tryz.underlying117
  a39 := Tryz.isAgg117
  z39 := Tryz.sizeOf117
  v39 := Tryz.zeroValue117
  t45 := Tryz.underlying167
  a45 := Tryz.isAgg167
  z45 := Tryz.sizeOf167
  v45 := Tryz.zeroValue167
  t46 := Tryz.underlying168
  a46 := Tryz.isAgg168
  z46 := Tryz.sizeOf168
  v46 := Tryz.zeroValue168
  t50 := Tryz.underlying34
  a50 := Tryz.isAgg34
  z50 := Tryz.sizeOf34
  v50 := Tryz.zeroValue34
  t53 := Tryz.underlying174
  a53 := Tryz.isAgg174
  z53 := Tryz.sizeOf174
  v53 := Tryz.zeroValue174
  t55 := Tryz.underlying176
  a55 := Tryz.isAgg176
  z55 := Tryz.sizeOf176
  v55 := Tryz.zeroValue176
  t66 := Tryz.underlying214
  a66 := Tryz.isAgg214
  z66 := Tryz.sizeOf214
  v66 := Tryz.zeroValue214
  t70 := Tryz.underlying218
  a70 := Tryz.isAgg218
  z70 := Tryz.sizeOf218
  v70 := Tryz.zeroValue218
  t76 := Tryz.underlying260
  a76 := Tryz.isAgg260
  z76 := Tryz.sizeOf260
  v76 := Tryz.zeroValue260
  t77 := Tryz.underlying261
  a77 := Tryz.isAgg261
  z77 := Tryz.sizeOf261
  v77 := Tryz.zeroValue261 }
def Tryz.laysSlF6_f131_ren : Go.Shelf.Ren := ⟨fun | 6 => 131 | 15 => 44 | 14 => 173 | 28 => 84 | 29 => 85 | 20 => 198 | 21 => 199 | 22 => 200 | 23 => 201 | 24 => 202 | 25 => 203 | 26 => 204 | 27 => 205 | 46 => 215 | 47 => 124 | 48 => 125 | 49 => 216 | 50 => 217 | 57 => 228 | n => n, fun | 22 => 61 | 24 => 66 | 25 => 227 | 3 => 3 | 39 => 117 | 0 => 0 | 53 => 174 | 55 => 176 | 4 => 4 | 46 => 168 | 45 => 167 | 50 => 34 | 5 => 5 | 9 => 9 | 66 => 214 | 70 => 218 | 76 => 260 | 77 => 261 | n => n, fun | n => n⟩
theorem Tryz.laysSlF6_f131 : Go.Proofs.SlLaysF.n6 Tryz.prog Tryz.laysSlF6_f131_ren := {
  mixed := by kernel_rfl
  f6 := ⟨Tryz.f131.name, by decide, Tryz.func131.trans (congrArg some (by kernel_rfl))⟩
  f14 := ⟨Tryz.f173.name, by decide, Tryz.func173.trans (congrArg some (by kernel_rfl))⟩
  f15 := Tryz.func44.trans (congrArg some (by kernel_rfl))
  f20 := ⟨Tryz.f198.name, by decide, Tryz.func198.trans (congrArg some (by kernel_rfl))⟩
  f21 := ⟨Tryz.f199.name, by decide, Tryz.func199.trans (congrArg some (by kernel_rfl))⟩
  f22 := ⟨Tryz.f200.name, by decide, Tryz.func200.trans (congrArg some (by kernel_rfl))⟩
  f23 := ⟨Tryz.f201.name, by decide, Tryz.func201.trans (congrArg some (by kernel_rfl))⟩
  f24 := ⟨Tryz.f202.name, by decide, Tryz.func202.trans (congrArg some (by kernel_rfl))⟩
  f25 := ⟨Tryz.f203.name, by decide, Tryz.func203.trans (congrArg some (by kernel_rfl))⟩
  f26 := ⟨Tryz.f204.name, by decide, Tryz.func204.trans (congrArg some (by kernel_rfl))⟩
  f27 := ⟨Tryz.f205.name, by decide, Tryz.func205.trans (congrArg some (by kernel_rfl))⟩
  f28 := Tryz.func84.trans (congrArg some (by kernel_rfl))
  f29 := Tryz.func85.trans (congrArg some (by kernel_rfl))
  f46 := ⟨Tryz.f215.name, by decide, Tryz.func215.trans (congrArg some (by kernel_rfl))⟩
  f47 := Tryz.func124.trans (congrArg some (by kernel_rfl))
  f48 := Tryz.func125.trans (congrArg some (by kernel_rfl))
  f49 := ⟨Tryz.f216.name, by decide, Tryz.func216.trans (congrArg some (by kernel_rfl))⟩
  f50 := ⟨Tryz.f217.name, by decide, Tryz.func217.trans (congrArg some (by kernel_rfl))⟩
  f57 := ⟨Tryz.f228.name, by decide, Tryz.func228.trans (congrArg some (by kernel_rfl))⟩
  t0 := Tryz.underlying0
  a0 := Tryz.isAgg0
  z0 := Tryz.sizeOf0
  v0 := Tryz.zeroValue0
  t3 := Tryz.underlying3
  a3 := Tryz.isAgg3
  z3 := Tryz.sizeOf3
  v3 := Tryz.zeroValue3
  t4 := Tryz.underlying4
  a4 := Tryz.isAgg4
  z4 := Tryz.sizeOf4
  v4 := Tryz.zeroValue4
  t5 := Tryz.underlying5
  a5 := Tryz.isAgg5
  z5 := Tryz.sizeOf5
  v5 := Tryz.zeroValue5
  t9 := Tryz.underlying9
  a9 := Tryz.isAgg9
  z9 := Tryz.sizeOf9
  v9 := Tryz.zeroValue9
  t22 := Tryz.underlying61
  a22 := Tryz.isAgg61
  z22 := Tryz.sizeOf61
  v22 := Tryz.zeroValue61
  a24 := Tryz.isAgg66
  z24 := Tryz.sizeOf66
  t25 := Tryz.underlying227
  a25 := Tryz.isAgg227
  z25 := Tryz.sizeOf227
  v25 := Tryz.zeroValue227
  t39 := Tryz.underlying117
  a39 := Tryz.isAgg117
  z39 := Tryz.sizeOf117
  v39 := Tryz.zeroValue117
  t45 := Tryz.underlying167
  a45 := Tryz.isAgg167
  z45 := Tryz.sizeOf167
  v45 := Tryz.zeroValue167
  t46 := Tryz.underlying168
  a46 := Tryz.isAgg168
  z46 := Tryz.sizeOf168
  v46 := Tryz.zeroValue168
  t50 := Tryz.underlying34
  a50 := Tryz.isAgg34
  z50 := Tryz.sizeOf34
  v50 := Tryz.zeroValue34
  t53 := Tryz.underlying174
  a53 := Tryz.isAgg174
  z53 := Tryz.sizeOf174
  v53 := Tryz.zeroValue174
  t55 := Tryz.underlying176
  a55 := Tryz.isAgg176
  z55 := Tryz.sizeOf176
  v55 := Tryz.zeroValue176
  t66 := Tryz.underlying214
  a66 := Tryz.isAgg214
  z66 := Tryz.sizeOf214
  v66 := Tryz.zeroValue214
  t70 := Tryz.underlying218
  a70 := Tryz.isAgg218
  z70 := Tryz.sizeOf218
  v70 := Tryz.zeroValue218
  t76 := Tryz.underlying260
  a76 := Tryz.isAgg260
  z76 := Tryz.sizeOf260
  v76 := Tryz.zeroValue260
  t77 := Tryz.underlying261
  a77 := Tryz.isAgg261
  z77 := Tryz.sizeOf261
  v77 := Tryz.zeroValue261 }
open Go.RowKit Go.Lib Go.Sort in
theorem Tryz.slices_SortFunc_f105 {α : Type} [Inhabited α] (enc : α → Value) (h1 : OneCell enc) (cf : α → α → Int) (hO : SWO (ltOf cf)) (g : Nat) (cb : Array Value) (blk off cap : Nat) (d : Array α) (w : World) (eg : ∀ args w, (callFunc g args).run Tryz.prog w = .ok (.enter g args) w) (hcmp : CmpLays1 Tryz.prog g cb enc cf blk off d.size w) (hH : Holds enc w blk off d) (hblk : blk < w.heap.size) (hsz : d.size < 4611686018427387904) :
    Calls Tryz.prog 105 #[.slice (some ⟨blk, off, none⟩) d.size cap, .func (.func g) #[] cb] w fun e w' =>
      e = .returned (.tuple #[]) ∧ ∃ d' n os, PermIn 0 d.size d d' ∧ SortedIn (ltOf cf) 0 d.size d' ∧ w' = sortWorld enc w blk off n d' os := Any.slices_SortFunc Tryz.laysSlF6_f105 enc h1 cf hO g cb blk off cap d w eg hcmp hH hblk hsz
open Go.RowKit Go.Lib Go.Sort in
theorem Tryz.slices_SortFunc_none_f24 {α : Type} [Inhabited α] (p : Option Addr) (cap : Nat) (fv : Value) (w : World) :
    Calls Tryz.prog 24 #[.slice p 0 cap, fv] w fun e w' => e = .returned (.tuple #[]) ∧ w' = w := AnyF.slices_SortFunc_none Tryz.laysSlF06_f24 p cap fv w
open Go.RowKit Go.Lib Go.Sort in
theorem Tryz.slices_SortFunc_none_f59 {α : Type} [Inhabited α] (p : Option Addr) (cap : Nat) (fv : Value) (w : World) :
    Calls Tryz.prog 59 #[.slice p 0 cap, fv] w fun e w' => e = .returned (.tuple #[]) ∧ w' = w := AnyF.slices_SortFunc_none Tryz.laysSlF06_f59 p cap fv w
open Go.RowKit Go.Lib Go.Sort in
theorem Tryz.slices_SortFunc_total_f131 {α : Type} [Inhabited α] (enc : α → Value) (h1 : OneCell enc) (cf : α → α → Int) (hO : SWO (ltOf cf)) (g : Nat) (cb : Array Value) (blk off cap : Nat) (d : Array α) (w : World) (eg : ∀ args w, (callFunc g args).run Tryz.prog w = .ok (.enter g args) w) (hcmp : CmpLays1 Tryz.prog g cb enc cf blk off d.size w) (hH : Holds enc w blk off d) (hblk : blk < w.heap.size) (hsz : d.size < 4611686018427387904) (hT : ∀ x y, (ltOf cf) x y = false → (ltOf cf) y x = false → x = y) :
    Calls Tryz.prog 131 #[.slice (some ⟨blk, off, none⟩) d.size cap, .func (.func g) #[] cb] w fun e w' =>
      e = .returned (.tuple #[]) ∧ ∃ n os, w' = sortWorld enc w blk off n (d.toList.mergeSort fun x y => !(ltOf cf) y x).toArray os := Any.slices_SortFunc_total Tryz.laysSlF6_f131 enc h1 cf hO g cb blk off cap d w eg hcmp hH hblk hsz hT
open Go.RowKit Go.Lib Go.Sort in
theorem Tryz.slices_SortFunc_total_f23 {α : Type} [Inhabited α] (k : Nat) (aE : ∀ w, (isAgg (Tryz.laysSlF06_f23_ren.t 24)).run Tryz.prog w = .ok true w) (zE : ∀ w, (Go.sizeOf (Tryz.laysSlF06_f23_ren.t 24)).run Tryz.prog w = .ok k w) (enc : α → List Value) (hk : ∀ x, (enc x).length = k) (h1 : ∀ x, ∀ v ∈ enc x, v.oneCell' = true) (cf : α → α → Int) (hO : SWO (ltOf cf)) (g : Nat) (cb : Array Value) (blk off cap : Nat) (d : Array α) (w : World) (eg : ∀ args w, (callFunc g args).run Tryz.prog w = .ok (.enter g args) w) (hcmp : CmpLays Tryz.prog g cb enc k cf blk off d.size w) (hH : HoldsK enc k w blk off d) (hblk : blk < w.heap.size) (hsz : d.size < 4611686018427387904) (hT : ∀ x y, (ltOf cf) x y = false → (ltOf cf) y x = false → x = y) :
    Calls Tryz.prog 23 #[.slice (some ⟨blk, off, none⟩) d.size cap, .func (.func g) #[] cb] w fun e w' =>
      e = .returned (.tuple #[]) ∧ ∃ n os, w' = sortWorldK enc k w blk off n (d.toList.mergeSort fun x y => !(ltOf cf) y x).toArray os := AnyQ.slices_SortFunc_total Tryz.laysSlF06_f23 k aE zE enc hk h1 cf hO g cb blk off cap d w eg hcmp hH hblk hsz hT
open Go.RowKit Go.Lib Go.Sort in
theorem Tryz.slices_SortFunc_total_f24 {α : Type} [Inhabited α] (k : Nat) (aE : ∀ w, (isAgg (Tryz.laysSlF06_f24_ren.t 24)).run Tryz.prog w = .ok true w) (zE : ∀ w, (Go.sizeOf (Tryz.laysSlF06_f24_ren.t 24)).run Tryz.prog w = .ok k w) (enc : α → List Value) (hk : ∀ x, (enc x).length = k) (h1 : ∀ x, ∀ v ∈ enc x, v.oneCell' = true) (cf : α → α → Int) (hO : SWO (ltOf cf)) (g : Nat) (cb : Array Value) (blk off cap : Nat) (d : Array α) (w : World) (eg : ∀ args w, (callFunc g args).run Tryz.prog w = .ok (.enter g args) w) (hcmp : CmpLays Tryz.prog g cb enc k cf blk off d.size w) (hH : HoldsK enc k w blk off d) (hblk : blk < w.heap.size) (hsz : d.size < 4611686018427387904) (hT : ∀ x y, (ltOf cf) x y = false → (ltOf cf) y x = false → x = y) :
    Calls Tryz.prog 24 #[.slice (some ⟨blk, off, none⟩) d.size cap, .func (.func g) #[] cb] w fun e w' =>
      e = .returned (.tuple #[]) ∧ ∃ n os, w' = sortWorldK enc k w blk off n (d.toList.mergeSort fun x y => !(ltOf cf) y x).toArray os := AnyQ.slices_SortFunc_total Tryz.laysSlF06_f24 k aE zE enc hk h1 cf hO g cb blk off cap d w eg hcmp hH hblk hsz hT
abbrev Tryz.slices_Sort_int_f70 := @Tryz.slices_Sort_int
abbrev Tryz.slices_Sort_int_none_f70 := @Tryz.slices_Sort_int_none
end Go.Proofs
