/-
  DERIVED: THE SHELF's CONTRACTS AT THIS DUMP, IN PLAIN WORDS (tools/lay-plain.mjs out of 'TryzShelf.lean', which tools/lay-shelf.mjs wrote): THE SAME DECLARATIONS UNDER THE SAME NAMES: 'import', 'namespace', 'open', 'def', 'theorem' AND NOTHING ELSE: no command of the shelf's: FOR A HAND-IN. Each laying: the table of numbers ('.._ren') and one theorem, a field a fact of the dump's own or the kernel's comparison; each contract: ONE APPLICATION.
-/
import Derived.Shelf.Small.Bits
import Derived.Shelf.Small.Wraps
import Derived.Shelf.Strconv.Itoa0
import Derived.Shelf.Sort.Plain
import Derived.Shelf.Slices.Turned
import Derived.Shelf.Slices.Equal
import Derived.Ground.Names2Prog
import Derived.Shelf.Slices.Clone
import Derived.Shelf.Slices.SearchI
import Derived.Shelf.Slices.In.SortNone
import Derived.Shelf.Slices.Empties2
import Derived.Ground.SlgnProg
import Derived.Shelf.SlicesG.Clone
import Derived.Shelf.SlicesG.CompactI
import Derived.Shelf.SlicesG.SearchI
import Derived.Shelf.SlicesE.Index
import Derived.Shelf.SlicesE.Clone
import Derived.Ground.SlsfProg
import Derived.Shelf.SlSortCmp.Insertion
import Derived.Shelf.SlicesQ.Reverse
import Derived.Ground.SlgmProg
import Derived.Shelf.SortM.Plain
import Derived.Shelf.SortM.SortNone
import Derived.Shelf.SlSortCmp.InsertionK
import Derived.Shelf.SlSortCmp.SiftDownK
import Derived.Shelf.SlSortCmp.HeapSortK
import Derived.Shelf.SlSortCmp.MedianK
import Derived.Shelf.SlSortCmp.PivotK
import Derived.Shelf.SlSortCmp.ReverseRangeK
import Derived.Shelf.SlSortCmp.PartialInsertionK
import Derived.Shelf.SlSortCmp.PartitionEqualK
import Derived.Shelf.SlSortCmp.PartitionK
import Derived.Shelf.SlSortCmp.PdqK
import Derived.Shelf.SlSortCmp.WholeK
import Derived.Shelf.SlSortCmp.SiftDown1
import Derived.Shelf.SlSortCmp.HeapSort1
import Derived.Shelf.SlSortCmp.Insertion1
import Derived.Shelf.SlSortCmp.Median1
import Derived.Shelf.SlSortCmp.Pivot1
import Derived.Shelf.SlSortCmp.ReverseRange1
import Derived.Shelf.SlSortCmp.PartialInsertion1
import Derived.Shelf.SlSortCmp.PartitionEqual1
import Derived.Shelf.SlSortCmp.Partition1
import Derived.Shelf.SlSortCmp.Pdq1
import Derived.Shelf.SlSortCmp.Whole1
import Derived.Shelf.SlSortCmp.NoneTotal
import Derived.Test.YtpjaeilkjglfhaaGreatProg
set_option linter.all false
namespace Go.Proofs
open Go.Shelf
def Tryz.lays189_ren : Go.Shelf.Ren := ⟨fun | 189 => 45 | 125 => 105 | 257 => 104 | 128 => 171 | 129 => 172 | 294 => 162 | 295 => 163 | 296 => 164 | 297 => 165 | 298 => 166 | 299 => 167 | 216 => 168 | 300 => 169 | 301 => 170 | 328 => 233 | 329 => 234 | 330 => 235 | 331 => 236 | 332 => 237 | 215 => 181 | 343 => 290 | n => n, fun | 28 => 22 | 3 => 3 | 46 => 230 | 0 => 0 | 51 => 303 | 53 => 194 | 4 => 4 | 183 => 296 | 182 => 295 | 131 => 113 | 5 => 5 | 9 => 9 | 218 => 354 | 222 => 358 | 228 => 396 | 229 => 397 | n => n, fun | n => n⟩
theorem Tryz.lays189 : Go.Proofs.Lays.n189 Tryz.prog Tryz.lays189_ren := {
  mixed := by kernel_rfl
  f125 := Tryz.func105.trans (congrArg some (by kernel_rfl))
  f128 := Tryz.func171.trans (congrArg some (by kernel_rfl))
  f129 := Tryz.func172.trans (congrArg some (by kernel_rfl))
  f189 := Tryz.func45.trans (congrArg some (by kernel_rfl))
  f215 := Tryz.func181.trans (congrArg some (by kernel_rfl))
  f216 := Tryz.func168.trans (congrArg some (by kernel_rfl))
  f257 := Tryz.func104.trans (congrArg some (by kernel_rfl))
  f294 := Tryz.func162.trans (congrArg some (by kernel_rfl))
  f295 := Tryz.func163.trans (congrArg some (by kernel_rfl))
  f296 := Tryz.func164.trans (congrArg some (by kernel_rfl))
  f297 := Tryz.func165.trans (congrArg some (by kernel_rfl))
  f298 := Tryz.func166.trans (congrArg some (by kernel_rfl))
  f299 := Tryz.func167.trans (congrArg some (by kernel_rfl))
  f300 := Tryz.func169.trans (congrArg some (by kernel_rfl))
  f301 := Tryz.func170.trans (congrArg some (by kernel_rfl))
  f328 := Tryz.func233.trans (congrArg some (by kernel_rfl))
  f329 := Tryz.func234.trans (congrArg some (by kernel_rfl))
  f330 := Tryz.func235.trans (congrArg some (by kernel_rfl))
  f331 := Tryz.func236.trans (congrArg some (by kernel_rfl))
  f332 := Tryz.func237.trans (congrArg some (by kernel_rfl))
  f343 := Tryz.func290.trans (congrArg some (by kernel_rfl))
  t0 := Tryz.underlying0
  a0 := Tryz.isAgg0
  z0 := Tryz.sizeOf0
  v0 := Tryz.zeroValue0
  t3 := Tryz.underlying3
  a3 := Tryz.isAgg3
  z3 := Tryz.sizeOf3
  v3 := Tryz.zeroValue3
  t4 := Tryz.underlying4
  a4 := Tryz.isAgg4
  z4 := Tryz.sizeOf4
  v4 := Tryz.zeroValue4
  t5 := Tryz.underlying5
  a5 := Tryz.isAgg5
  z5 := Tryz.sizeOf5
  v5 := Tryz.zeroValue5
  t9 := Tryz.underlying9
  a9 := Tryz.isAgg9
  z9 := Tryz.sizeOf9
  v9 := Tryz.zeroValue9
  t28 := Tryz.underlying22
  a28 := Tryz.isAgg22
  z28 := Tryz.sizeOf22
  v28 := Tryz.zeroValue22
  t46 := Tryz.underlying230
  a46 := Tryz.isAgg230
  z46 := Tryz.sizeOf230
  v46 := Tryz.zeroValue230
  t51 := Tryz.underlying303
  a51 := Tryz.isAgg303
  z51 := Tryz.sizeOf303
  v51 := Tryz.zeroValue303
  t53 := Tryz.underlying194
  a53 := Tryz.isAgg194
  z53 := Tryz.sizeOf194
  v53 := Tryz.zeroValue194
  t131 := Tryz.underlying113
  a131 := Tryz.isAgg113
  z131 := Tryz.sizeOf113
  v131 := Tryz.zeroValue113
  t182 := Tryz.underlying295
  a182 := Tryz.isAgg295
  z182 := Tryz.sizeOf295
  v182 := Tryz.zeroValue295
  t183 := Tryz.underlying296
  a183 := Tryz.isAgg296
  z183 := Tryz.sizeOf296
  v183 := Tryz.zeroValue296
  t218 := Tryz.underlying354
  a218 := Tryz.isAgg354
  z218 := Tryz.sizeOf354
  v218 := Tryz.zeroValue354
  t222 := Tryz.underlying358
  a222 := Tryz.isAgg358
  z222 := Tryz.sizeOf358
  v222 := Tryz.zeroValue358
  t228 := Tryz.underlying396
  a228 := Tryz.isAgg396
  z228 := Tryz.sizeOf396
  v228 := Tryz.zeroValue396
  t229 := Tryz.underlying397
  a229 := Tryz.isAgg397
  z229 := Tryz.sizeOf397
  v229 := Tryz.zeroValue397 }
open Go.Sort Go.RowKit in
theorem Tryz.slices_Sort_int (blk off cap : Nat) (zs : List Int) (w : World) (hH : Holds (Value.int .i64) w blk off zs.toArray) (hblk : blk < w.heap.size) (hsz : zs.length < 4611686018427387904) :
    Calls Tryz.prog 45 #[.slice (some ⟨blk, off, none⟩) zs.length cap] w fun e w' =>
      e = .returned (.tuple #[]) ∧ ∃ n os, w' = grow (putRow (Value.int .i64) (Sort.ahead w n) blk off (zs.mergeSort fun x y => decide (x ≤ y)).toArray) os := Any.slices_Sort_int Tryz.lays189 blk off cap zs w hH hblk hsz
def Tryz.laysNm215_ren : Go.Shelf.Ren := ⟨fun | 15 => 87 | n => n, fun | 22 => 22 | 3 => 3 | 4 => 4 | n => n, fun | n => n⟩
theorem Tryz.laysNm215 : Go.Proofs.Lays2.n15 Tryz.prog Tryz.laysNm215_ren := {
  mixed := by kernel_rfl
  f15 := Tryz.func87.trans (congrArg some (by kernel_rfl))
  t3 := Tryz.underlying3
  a3 := Tryz.isAgg3
  z3 := Tryz.sizeOf3
  v3 := Tryz.zeroValue3
  t4 := Tryz.underlying4
  a4 := Tryz.isAgg4
  z4 := Tryz.sizeOf4
  v4 := Tryz.zeroValue4
  t22 := Tryz.underlying22
  a22 := Tryz.isAgg22
  z22 := Tryz.sizeOf22
  v22 := Tryz.zeroValue22
  i3 := by kernel_rfl }
open Go.RowKit Go.Lib in
theorem Tryz.slices_Clone_int (b off n c : Nat) (zs : List Int) (w : World) (hz : n ≤ zs.length) (hbig : n * 8 ≤ 140737488355328) (hc : ∀ j, j < zs.length → w.cell? ⟨b, off + j, none⟩ = some (.int .i64 (zs.getD j 0))) :
    Calls Tryz.prog 87 #[.slice (some ⟨b, off, none⟩) n c] w fun e w' => ∃ v', e = .returned v' ∧ w'.ownsRow w.heap.size 3 1 v' n ((zs.take n).map (Value.int .i64)) ∧ v' ≠ .slice none 0 0 ∧ Below w.heap.size w w' := Any.slices_Clone_int Tryz.laysNm215 b off n c zs w hz hbig hc
open Go.RowKit Go.Lib in
theorem Tryz.slices_Clone_int_nil (n c : Nat) (w : World) :
    Calls Tryz.prog 87 #[.slice none n c] w fun e w' => e = .returned (.slice none 0 0) ∧ w' = w := Any.slices_Clone_int_nil Tryz.laysNm215 n c w
open Go.RowKit Go.Sort in
theorem Tryz.slices_Sort_int_none (p : Option Addr) (cap : Nat) (w : World) :
    Calls Tryz.prog 45 #[.slice p 0 cap] w fun e w' => e = .returned (.tuple #[]) ∧ w' = w := Any.slices_Sort_int_none Tryz.lays189 p cap w
def Tryz.laysSlN41_f132_ren : Go.Shelf.Ren := ⟨fun | 41 => 132 | n => n, fun | 22 => 258 | 23 => 2 | 4 => 4 | n => n, fun | n => n⟩
theorem Tryz.laysSlN41_f132 : Go.Proofs.SlLaysN.n41 Tryz.prog Tryz.laysSlN41_f132_ren := {
  mixed := by kernel_rfl
  f41 := ⟨Tryz.f132.name, by decide, Tryz.func132.trans (congrArg some (by kernel_rfl))⟩
  t4 := Tryz.underlying4
  a4 := Tryz.isAgg4
  z4 := Tryz.sizeOf4
  v4 := Tryz.zeroValue4
  t22 := Tryz.underlying258
  a22 := Tryz.isAgg258
  z22 := Tryz.sizeOf258
  v22 := Tryz.zeroValue258
  t23 := Tryz.underlying2
  a23 := Tryz.isAgg2
  z23 := Tryz.sizeOf2
  v23 := Tryz.zeroValue2
  i23 := by kernel_rfl }
open Go.RowKit Go.Lib in
theorem Tryz.slices_Clone_int_f132 (b off n c : Nat) (zs : List Int) (w : World) (hz : n ≤ zs.length) (hbig : n * 8 ≤ 140737488355328) (hc : ∀ j, j < zs.length → w.cell? ⟨b, off + j, none⟩ = some (.int .i64 (zs.getD j 0))) :
    Calls Tryz.prog 132 #[.slice (some ⟨b, off, none⟩) n c] w fun e w' => ∃ v', e = .returned v' ∧ w'.ownsRow w.heap.size 2 1 v' n ((zs.take n).map (Value.int .i64)) ∧ v' ≠ .slice none 0 0 ∧ Below w.heap.size w w' := AnyG.slices_Clone_int Tryz.laysSlN41_f132 b off n c zs w hz hbig hc
open Go.RowKit Go.Lib in
theorem Tryz.slices_Clone_int_nil_f132 (n c : Nat) (w : World) :
    Calls Tryz.prog 132 #[.slice none n c] w fun e w' => e = .returned (.slice none 0 0) ∧ w' = w := AnyG.slices_Clone_int_nil Tryz.laysSlN41_f132 n c w
def Tryz.laysSlN43_f131_ren : Go.Shelf.Ren := ⟨fun | 43 => 131 | n => n, fun | 22 => 258 | 23 => 2 | 3 => 3 | 4 => 4 | 0 => 0 | n => n, fun | n => n⟩
theorem Tryz.laysSlN43_f131 : Go.Proofs.SlLaysN.n43 Tryz.prog Tryz.laysSlN43_f131_ren := {
  mixed := by kernel_rfl
  f43 := ⟨Tryz.f131.name, by decide, Tryz.func131.trans (congrArg some (by kernel_rfl))⟩
  t0 := Tryz.underlying0
  a0 := Tryz.isAgg0
  z0 := Tryz.sizeOf0
  v0 := Tryz.zeroValue0
  t3 := Tryz.underlying3
  a3 := Tryz.isAgg3
  z3 := Tryz.sizeOf3
  v3 := Tryz.zeroValue3
  t4 := Tryz.underlying4
  a4 := Tryz.isAgg4
  z4 := Tryz.sizeOf4
  v4 := Tryz.zeroValue4
  t22 := Tryz.underlying258
  a22 := Tryz.isAgg258
  z22 := Tryz.sizeOf258
  v22 := Tryz.zeroValue258
  t23 := Tryz.underlying2
  a23 := Tryz.isAgg2
  z23 := Tryz.sizeOf2
  v23 := Tryz.zeroValue2
  i23 := by kernel_rfl }
open Go.RowKit Go.Lib Go.Sort in
theorem Tryz.slices_Compact_int (blk off cap : Nat) (zs : List Int) (w : World) (hH : Holds (Value.int .i64) w blk off zs.toArray) (hsz : zs.length ≤ 9223372036854775807) (hcap : zs.length ≤ cap) :
    Calls Tryz.prog 131 #[.slice (some ⟨blk, off, none⟩) zs.length cap] w fun e w' => e = .returned (.slice (some ⟨blk, off, none⟩) (Lib.compact zs).length cap) ∧ ∃ q, w' = putRow (Value.int .i64) (Sort.ahead w q) blk off (Lib.compact zs ++ List.replicate (zs.length - (Lib.compact zs).length) 0).toArray := AnyG.slices_Compact_int Tryz.laysSlN43_f131 blk off cap zs w hH hsz hcap
open Go.RowKit Go.Lib Go.Sort in
theorem Tryz.slices_Compact_int_empty (a : Option Addr) (cap : Nat) (w : World) :
    Calls Tryz.prog 131 #[.slice a 0 cap] w fun e w' => e = .returned (.slice a 0 cap) ∧ w' = w := AnyG.slices_Compact_int_empty Tryz.laysSlN43_f131 a cap w
def Tryz.laysSlM5_f130_ren : Go.Shelf.Ren := ⟨fun | 5 => 130 | 8 => 105 | 7 => 218 | 19 => 171 | 20 => 172 | 10 => 258 | 11 => 259 | 12 => 260 | 13 => 261 | 14 => 262 | 15 => 263 | 16 => 264 | 17 => 265 | 18 => 266 | 30 => 298 | 31 => 234 | 32 => 235 | 33 => 299 | 34 => 300 | 35 => 232 | 40 => 310 | n => n, fun | 23 => 258 | 25 => 2 | 3 => 3 | 32 => 230 | 22 => 258 | 0 => 0 | 44 => 303 | 46 => 194 | 4 => 4 | 36 => 296 | 35 => 295 | 41 => 113 | 5 => 5 | 9 => 9 | 53 => 354 | 57 => 358 | 63 => 396 | 64 => 397 | n => n, fun | n => n⟩
theorem Tryz.laysSlM5_f130 : Go.Proofs.SlLaysM.n5 Tryz.prog Tryz.laysSlM5_f130_ren := {
  mixed := by kernel_rfl
  f5 := ⟨Tryz.f130.name, by decide, Tryz.func130.trans (congrArg some (by kernel_rfl))⟩
  f7 := ⟨Tryz.f218.name, by decide, Tryz.func218.trans (congrArg some (by kernel_rfl))⟩
  f8 := Tryz.func105.trans (congrArg some (by kernel_rfl))
  f10 := ⟨Tryz.f258.name, by decide, Tryz.func258.trans (congrArg some (by kernel_rfl))⟩
  f11 := ⟨Tryz.f259.name, by decide, Tryz.func259.trans (congrArg some (by kernel_rfl))⟩
  f12 := ⟨Tryz.f260.name, by decide, Tryz.func260.trans (congrArg some (by kernel_rfl))⟩
  f13 := ⟨Tryz.f261.name, by decide, Tryz.func261.trans (congrArg some (by kernel_rfl))⟩
  f14 := ⟨Tryz.f262.name, by decide, Tryz.func262.trans (congrArg some (by kernel_rfl))⟩
  f15 := ⟨Tryz.f263.name, by decide, Tryz.func263.trans (congrArg some (by kernel_rfl))⟩
  f16 := ⟨Tryz.f264.name, by decide, Tryz.func264.trans (congrArg some (by kernel_rfl))⟩
  f17 := ⟨Tryz.f265.name, by decide, Tryz.func265.trans (congrArg some (by kernel_rfl))⟩
  f18 := ⟨Tryz.f266.name, by decide, Tryz.func266.trans (congrArg some (by kernel_rfl))⟩
  f19 := Tryz.func171.trans (congrArg some (by kernel_rfl))
  f20 := Tryz.func172.trans (congrArg some (by kernel_rfl))
  f30 := ⟨Tryz.f298.name, by decide, Tryz.func298.trans (congrArg some (by kernel_rfl))⟩
  f31 := Tryz.func234.trans (congrArg some (by kernel_rfl))
  f32 := Tryz.func235.trans (congrArg some (by kernel_rfl))
  f33 := ⟨Tryz.f299.name, by decide, Tryz.func299.trans (congrArg some (by kernel_rfl))⟩
  f34 := ⟨Tryz.f300.name, by decide, Tryz.func300.trans (congrArg some (by kernel_rfl))⟩
  f35 := ⟨Tryz.f232.name, by decide, Tryz.func232.trans (congrArg some (by kernel_rfl))⟩
  f40 := ⟨Tryz.f310.name, by decide, Tryz.func310.trans (congrArg some (by kernel_rfl))⟩
  t0 := Tryz.underlying0
  a0 := Tryz.isAgg0
  z0 := Tryz.sizeOf0
  v0 := Tryz.zeroValue0
  t3 := Tryz.underlying3
  a3 := Tryz.isAgg3
  z3 := Tryz.sizeOf3
  v3 := Tryz.zeroValue3
  t4 := Tryz.underlying4
  a4 := Tryz.isAgg4
  z4 := Tryz.sizeOf4
  v4 := Tryz.zeroValue4
  t5 := Tryz.underlying5
  a5 := Tryz.isAgg5
  z5 := Tryz.sizeOf5
  v5 := Tryz.zeroValue5
  t9 := Tryz.underlying9
  a9 := Tryz.isAgg9
  z9 := Tryz.sizeOf9
  v9 := Tryz.zeroValue9
  t22 := Tryz.underlying258
  a22 := Tryz.isAgg258
  z22 := Tryz.sizeOf258
  v22 := Tryz.zeroValue258
  t23 := Tryz.underlying258
  a23 := Tryz.isAgg258
  z23 := Tryz.sizeOf258
  v23 := Tryz.zeroValue258
  t25 := Tryz.underlying2
  a25 := Tryz.isAgg2
  z25 := Tryz.sizeOf2
  v25 := Tryz.zeroValue2
  t32 := Tryz.underlying230
  a32 := Tryz.isAgg230
  z32 := Tryz.sizeOf230
  v32 := Tryz.zeroValue230
  t35 := Tryz.underlying295
  a35 := Tryz.isAgg295
  z35 := Tryz.sizeOf295
  v35 := Tryz.zeroValue295
  t36 := Tryz.underlying296
  a36 := Tryz.isAgg296
  z36 := Tryz.sizeOf296
  v36 := Tryz.zeroValue296
  t41 := Tryz.underlying113
  a41 := Tryz.isAgg113
  z41 := Tryz.sizeOf113
  v41 := Tryz.zeroValue113
  t44 := Tryz.underlying303
  a44 := Tryz.isAgg303
  z44 := Tryz.sizeOf303
  v44 := Tryz.zeroValue303
  t46 := Tryz.underlying194
  a46 := Tryz.isAgg194
  z46 := Tryz.sizeOf194
  v46 := Tryz.zeroValue194
  t53 := Tryz.underlying354
  a53 := Tryz.isAgg354
  z53 := Tryz.sizeOf354
  v53 := Tryz.zeroValue354
  t57 := Tryz.underlying358
  a57 := Tryz.isAgg358
  z57 := Tryz.sizeOf358
  v57 := Tryz.zeroValue358
  t63 := Tryz.underlying396
  a63 := Tryz.isAgg396
  z63 := Tryz.sizeOf396
  v63 := Tryz.zeroValue396
  t64 := Tryz.underlying397
  a64 := Tryz.isAgg397
  z64 := Tryz.sizeOf397
  v64 := Tryz.zeroValue397 }
open Go.Sort Go.RowKit in
theorem Tryz.slices_Sort_int_f130 (blk off cap : Nat) (zs : List Int) (w : World) (hH : Holds (Value.int .i64) w blk off zs.toArray) (hblk : blk < w.heap.size) (hsz : zs.length < 4611686018427387904) :
    Calls Tryz.prog 130 #[.slice (some ⟨blk, off, none⟩) zs.length cap] w fun e w' =>
      e = .returned (.tuple #[]) ∧ ∃ n os, w' = grow (putRow (Value.int .i64) (Sort.ahead w n) blk off (zs.mergeSort fun x y => decide (x ≤ y)).toArray) os := AnyM.slices_Sort_int Tryz.laysSlM5_f130 blk off cap zs w hH hblk hsz
open Go.RowKit Go.Sort in
theorem Tryz.slices_Sort_int_none_f130 (p : Option Addr) (cap : Nat) (w : World) :
    Calls Tryz.prog 130 #[.slice p 0 cap] w fun e w' => e = .returned (.tuple #[]) ∧ w' = w := AnyM.slices_Sort_int_none Tryz.laysSlM5_f130 p cap w
def Tryz.laysSlF06_f64_ren : Go.Shelf.Ren := ⟨fun | 6 => 64 | 15 => 105 | 14 => 123 | 28 => 171 | 29 => 172 | 20 => 201 | 21 => 202 | 22 => 203 | 23 => 204 | 24 => 205 | 25 => 206 | 26 => 207 | 27 => 208 | 46 => 252 | 47 => 234 | 48 => 235 | 49 => 253 | 50 => 254 | 57 => 296 | n => n, fun | 22 => 28 | 24 => 68 | 25 => 134 | 3 => 3 | 39 => 230 | 0 => 0 | 53 => 303 | 55 => 194 | 4 => 4 | 46 => 296 | 45 => 295 | 50 => 113 | 5 => 5 | 9 => 9 | 66 => 354 | 70 => 358 | 76 => 396 | 77 => 397 | n => n, fun | n => n⟩
theorem Tryz.laysSlF06_f64 : Go.Proofs.SlLaysF0.n6 Tryz.prog Tryz.laysSlF06_f64_ren := {
  mixed := by kernel_rfl
  f6 := ⟨Tryz.f64.name, by decide, Tryz.func64.trans (congrArg some (by kernel_rfl))⟩
  f14 := ⟨Tryz.f123.name, by decide, Tryz.func123.trans (congrArg some (by kernel_rfl))⟩
  f15 := Tryz.func105.trans (congrArg some (by kernel_rfl))
  f20 := ⟨Tryz.f201.name, by decide, Tryz.func201.trans (congrArg some (by kernel_rfl))⟩
  f21 := ⟨Tryz.f202.name, by decide, Tryz.func202.trans (congrArg some (by kernel_rfl))⟩
  f22 := ⟨Tryz.f203.name, by decide, Tryz.func203.trans (congrArg some (by kernel_rfl))⟩
  f23 := ⟨Tryz.f204.name, by decide, Tryz.func204.trans (congrArg some (by kernel_rfl))⟩
  f24 := ⟨Tryz.f205.name, by decide, Tryz.func205.trans (congrArg some (by kernel_rfl))⟩
  f25 := ⟨Tryz.f206.name, by decide, Tryz.func206.trans (congrArg some (by kernel_rfl))⟩
  f26 := ⟨Tryz.f207.name, by decide, Tryz.func207.trans (congrArg some (by kernel_rfl))⟩
  f27 := ⟨Tryz.f208.name, by decide, Tryz.func208.trans (congrArg some (by kernel_rfl))⟩
  f28 := Tryz.func171.trans (congrArg some (by kernel_rfl))
  f29 := Tryz.func172.trans (congrArg some (by kernel_rfl))
  f46 := ⟨Tryz.f252.name, by decide, Tryz.func252.trans (congrArg some (by kernel_rfl))⟩
  f47 := Tryz.func234.trans (congrArg some (by kernel_rfl))
  f48 := Tryz.func235.trans (congrArg some (by kernel_rfl))
  f49 := ⟨Tryz.f253.name, by decide, Tryz.func253.trans (congrArg some (by kernel_rfl))⟩
  f50 := ⟨Tryz.f254.name, by decide, Tryz.func254.trans (congrArg some (by kernel_rfl))⟩
  f57 := ⟨Tryz.f296.name, by decide, Tryz.func296.trans (congrArg some (by kernel_rfl))⟩
  t0 := Tryz.underlying0
  a0 := Tryz.isAgg0
  z0 := Tryz.sizeOf0
  v0 := Tryz.zeroValue0
  t3 := Tryz.underlying3
  a3 := Tryz.isAgg3
  z3 := Tryz.sizeOf3
  v3 := Tryz.zeroValue3
  t4 := Tryz.underlying4
  a4 := Tryz.isAgg4
  z4 := Tryz.sizeOf4
  v4 := Tryz.zeroValue4
  t5 := Tryz.underlying5
  a5 := Tryz.isAgg5
  z5 := Tryz.sizeOf5
  v5 := Tryz.zeroValue5
  t9 := Tryz.underlying9
  a9 := Tryz.isAgg9
  z9 := Tryz.sizeOf9
  v9 := Tryz.zeroValue9
  t22 := Tryz.underlying28
  a22 := Tryz.isAgg28
  z22 := Tryz.sizeOf28
  v22 := Tryz.zeroValue28
  t25 := Tryz.underlying134
  a25 := Tryz.isAgg134
  z25 := Tryz.sizeOf134
  v25 := Tryz.zeroValue134
  t39 := Tryz.underlying230
  a39 := Tryz.isAgg230
  z39 := Tryz.sizeOf230
  v39 := Tryz.zeroValue230
  t45 := Tryz.underlying295
  a45 := Tryz.isAgg295
  z45 := Tryz.sizeOf295
  v45 := Tryz.zeroValue295
  t46 := Tryz.underlying296
  a46 := Tryz.isAgg296
  z46 := Tryz.sizeOf296
  v46 := Tryz.zeroValue296
  t50 := Tryz.underlying113
  a50 := Tryz.isAgg113
  z50 := Tryz.sizeOf113
  v50 := Tryz.zeroValue113
  t53 := Tryz.underlying303
  a53 := Tryz.isAgg303
  z53 := Tryz.sizeOf303
  v53 := Tryz.zeroValue303
  t55 := Tryz.underlying194
  a55 := Tryz.isAgg194
  z55 := Tryz.sizeOf194
  v55 := Tryz.zeroValue194
  t66 := Tryz.underlying354
  a66 := Tryz.isAgg354
  z66 := Tryz.sizeOf354
  v66 := Tryz.zeroValue354
  t70 := Tryz.underlying358
  a70 := Tryz.isAgg358
  z70 := Tryz.sizeOf358
  v70 := Tryz.zeroValue358
  t76 := Tryz.underlying396
  a76 := Tryz.isAgg396
  z76 := Tryz.sizeOf396
  v76 := Tryz.zeroValue396
  t77 := Tryz.underlying397
  a77 := Tryz.isAgg397
  z77 := Tryz.sizeOf397
  v77 := Tryz.zeroValue397 }
def Tryz.laysSlF06_f65_ren : Go.Shelf.Ren := ⟨fun | 6 => 65 | 15 => 105 | 14 => 124 | 28 => 171 | 29 => 172 | 20 => 209 | 21 => 210 | 22 => 211 | 23 => 212 | 24 => 213 | 25 => 214 | 26 => 215 | 27 => 216 | 46 => 255 | 47 => 234 | 48 => 235 | 49 => 256 | 50 => 257 | 57 => 297 | n => n, fun | 22 => 29 | 24 => 70 | 25 => 137 | 3 => 3 | 39 => 230 | 0 => 0 | 53 => 303 | 55 => 194 | 4 => 4 | 46 => 296 | 45 => 295 | 50 => 113 | 5 => 5 | 9 => 9 | 66 => 354 | 70 => 358 | 76 => 396 | 77 => 397 | n => n, fun | n => n⟩
theorem Tryz.laysSlF06_f65 : Go.Proofs.SlLaysF0.n6 Tryz.prog Tryz.laysSlF06_f65_ren := {
  mixed := by kernel_rfl
  f6 := ⟨Tryz.f65.name, by decide, Tryz.func65.trans (congrArg some (by kernel_rfl))⟩
  f14 := ⟨Tryz.f124.name, by decide, Tryz.func124.trans (congrArg some (by kernel_rfl))⟩
  f15 := Tryz.func105.trans (congrArg some (by kernel_rfl))
  f20 := ⟨Tryz.f209.name, by decide, Tryz.func209.trans (congrArg some (by kernel_rfl))⟩
  f21 := ⟨Tryz.f210.name, by decide, Tryz.func210.trans (congrArg some (by kernel_rfl))⟩
  f22 := ⟨Tryz.f211.name, by decide, Tryz.func211.trans (congrArg some (by kernel_rfl))⟩
  f23 := ⟨Tryz.f212.name, by decide, Tryz.func212.trans (congrArg some (by kernel_rfl))⟩
  f24 := ⟨Tryz.f213.name, by decide, Tryz.func213.trans (congrArg some (by kernel_rfl))⟩
  f25 := ⟨Tryz.f214.name, by decide, Tryz.func214.trans (congrArg some (by kernel_rfl))⟩
  f26 := ⟨Tryz.f215.name, by decide, Tryz.func215.trans (congrArg some (by kernel_rfl))⟩
  f27 := ⟨Tryz.f216.name, by decide, Tryz.func216.trans (congrArg some (by kernel_rfl))⟩
  f28 := Tryz.func171.trans (congrArg some (by kernel_rfl))
  f29 := Tryz.func172.trans (congrArg some (by kernel_rfl))
  f46 := ⟨Tryz.f255.name, by decide, Tryz.func255.trans (congrArg some (by kernel_rfl))⟩
  f47 := Tryz.func234.trans (congrArg some (by kernel_rfl))
  f48 := Tryz.func235.trans (congrArg some (by kernel_rfl))
  f49 := ⟨Tryz.f256.name, by decide, Tryz.func256.trans (congrArg some (by kernel_rfl))⟩
  f50 := ⟨Tryz.f257.name, by decide, Tryz.func257.trans (congrArg some (by kernel_rfl))⟩
  f57 := ⟨Tryz.f297.name, by decide, Tryz.func297.trans (congrArg some (by kernel_rfl))⟩
  t0 := Tryz.underlying0
  a0 := Tryz.isAgg0
  z0 := Tryz.sizeOf0
  v0 := Tryz.zeroValue0
  t3 := Tryz.underlying3
  a3 := Tryz.isAgg3
  z3 := Tryz.sizeOf3
  v3 := Tryz.zeroValue3
  t4 := Tryz.underlying4
  a4 := Tryz.isAgg4
  z4 := Tryz.sizeOf4
  v4 := Tryz.zeroValue4
  t5 := Tryz.underlying5
  a5 := Tryz.isAgg5
  z5 := Tryz.sizeOf5
  v5 := Tryz.zeroValue5
  t9 := Tryz.underlying9
  a9 := Tryz.isAgg9
  z9 := Tryz.sizeOf9
  v9 := Tryz.zeroValue9
  t22 := Tryz.underlying29
  a22 := Tryz.isAgg29
  z22 := Tryz.sizeOf29
  v22 := Tryz.zeroValue29
  t25 := Tryz.underlying137
  a25 := Tryz.isAgg137
  z25 := Tryz.sizeOf137
  v25 := Tryz.zeroValue137
  t39 := Tryz.underlying230
  a39 := Tryz.isAgg230
  z39 := Tryz.sizeOf230
  v39 := Tryz.zeroValue230
  t45 := Tryz.underlying295
  a45 := Tryz.isAgg295
  z45 := Tryz.sizeOf295
  v45 := Tryz.zeroValue295
  t46 := Tryz.underlying296
  a46 := Tryz.isAgg296
  z46 := Tryz.sizeOf296
  v46 := Tryz.zeroValue296
  t50 := Tryz.underlying113
  a50 := Tryz.isAgg113
  z50 := Tryz.sizeOf113
  v50 := Tryz.zeroValue113
  t53 := Tryz.underlying303
  a53 := Tryz.isAgg303
  z53 := Tryz.sizeOf303
  v53 := Tryz.zeroValue303
  t55 := Tryz.underlying194
  a55 := Tryz.isAgg194
  z55 := Tryz.sizeOf194
  v55 := Tryz.zeroValue194
  t66 := Tryz.underlying354
  a66 := Tryz.isAgg354
  z66 := Tryz.sizeOf354
  v66 := Tryz.zeroValue354
  t70 := Tryz.underlying358
  a70 := Tryz.isAgg358
  z70 := Tryz.sizeOf358
  v70 := Tryz.zeroValue358
  t76 := Tryz.underlying396
  a76 := Tryz.isAgg396
  z76 := Tryz.sizeOf396
  v76 := Tryz.zeroValue396
  t77 := Tryz.underlying397
  a77 := Tryz.isAgg397
  z77 := Tryz.sizeOf397
  v77 := Tryz.zeroValue397 }
def Tryz.laysSlF06_f80_ren : Go.Shelf.Ren := ⟨fun | 6 => 80 | 15 => 105 | 14 => 149 | 28 => 171 | 29 => 172 | 20 => 222 | 21 => 223 | 22 => 224 | 23 => 225 | 24 => 226 | 25 => 227 | 26 => 228 | 27 => 229 | 46 => 279 | 47 => 234 | 48 => 235 | 49 => 280 | 50 => 281 | 57 => 306 | n => n, fun | 22 => 34 | 24 => 182 | 25 => 184 | 3 => 3 | 39 => 230 | 0 => 0 | 53 => 303 | 55 => 194 | 4 => 4 | 46 => 296 | 45 => 295 | 50 => 113 | 5 => 5 | 9 => 9 | 66 => 354 | 70 => 358 | 76 => 396 | 77 => 397 | n => n, fun | n => n⟩
theorem Tryz.laysSlF06_f80 : Go.Proofs.SlLaysF0.n6 Tryz.prog Tryz.laysSlF06_f80_ren := {
  mixed := by kernel_rfl
  f6 := ⟨Tryz.f80.name, by decide, Tryz.func80.trans (congrArg some (by kernel_rfl))⟩
  f14 := ⟨Tryz.f149.name, by decide, Tryz.func149.trans (congrArg some (by kernel_rfl))⟩
  f15 := Tryz.func105.trans (congrArg some (by kernel_rfl))
  f20 := ⟨Tryz.f222.name, by decide, Tryz.func222.trans (congrArg some (by kernel_rfl))⟩
  f21 := ⟨Tryz.f223.name, by decide, Tryz.func223.trans (congrArg some (by kernel_rfl))⟩
  f22 := ⟨Tryz.f224.name, by decide, Tryz.func224.trans (congrArg some (by kernel_rfl))⟩
  f23 := ⟨Tryz.f225.name, by decide, Tryz.func225.trans (congrArg some (by kernel_rfl))⟩
  f24 := ⟨Tryz.f226.name, by decide, Tryz.func226.trans (congrArg some (by kernel_rfl))⟩
  f25 := ⟨Tryz.f227.name, by decide, Tryz.func227.trans (congrArg some (by kernel_rfl))⟩
  f26 := ⟨Tryz.f228.name, by decide, Tryz.func228.trans (congrArg some (by kernel_rfl))⟩
  f27 := ⟨Tryz.f229.name, by decide, Tryz.func229.trans (congrArg some (by kernel_rfl))⟩
  f28 := Tryz.func171.trans (congrArg some (by kernel_rfl))
  f29 := Tryz.func172.trans (congrArg some (by kernel_rfl))
  f46 := ⟨Tryz.f279.name, by decide, Tryz.func279.trans (congrArg some (by kernel_rfl))⟩
  f47 := Tryz.func234.trans (congrArg some (by kernel_rfl))
  f48 := Tryz.func235.trans (congrArg some (by kernel_rfl))
  f49 := ⟨Tryz.f280.name, by decide, Tryz.func280.trans (congrArg some (by kernel_rfl))⟩
  f50 := ⟨Tryz.f281.name, by decide, Tryz.func281.trans (congrArg some (by kernel_rfl))⟩
  f57 := ⟨Tryz.f306.name, by decide, Tryz.func306.trans (congrArg some (by kernel_rfl))⟩
  t0 := Tryz.underlying0
  a0 := Tryz.isAgg0
  z0 := Tryz.sizeOf0
  v0 := Tryz.zeroValue0
  t3 := Tryz.underlying3
  a3 := Tryz.isAgg3
  z3 := Tryz.sizeOf3
  v3 := Tryz.zeroValue3
  t4 := Tryz.underlying4
  a4 := Tryz.isAgg4
  z4 := Tryz.sizeOf4
  v4 := Tryz.zeroValue4
  t5 := Tryz.underlying5
  a5 := Tryz.isAgg5
  z5 := Tryz.sizeOf5
  v5 := Tryz.zeroValue5
  t9 := Tryz.underlying9
  a9 := Tryz.isAgg9
  z9 := Tryz.sizeOf9
  v9 := Tryz.zeroValue9
  t22 := Tryz.underlying34
  a22 := Tryz.isAgg34
  z22 := Tryz.sizeOf34
  v22 := Tryz.zeroValue34
  t25 := Tryz.underlying184
  a25 := Tryz.isAgg184
  z25 := Tryz.sizeOf184
  v25 := Tryz.zeroValue184
  t39 := Tryz.underlying230
  a39 := Tryz.isAgg230
  z39 := Tryz.sizeOf230
  v39 := Tryz.zeroValue230
  t45 := Tryz.underlying295
  a45 := Tryz.isAgg295
  z45 := Tryz.sizeOf295
  v45 := Tryz.zeroValue295
  t46 := Tryz.underlying296
  a46 := Tryz.isAgg296
  z46 := Tryz.sizeOf296
  v46 := Tryz.zeroValue296
  t50 := Tryz.underlying113
  a50 := Tryz.isAgg113
  z50 := Tryz.sizeOf113
  v50 := Tryz.zeroValue113
  t53 := Tryz.underlying303
  a53 := Tryz.isAgg303
  z53 := Tryz.sizeOf303
  v53 := Tryz.zeroValue303
  t55 := Tryz.underlying194
  a55 := Tryz.isAgg194
  z55 := Tryz.sizeOf194
  v55 := Tryz.zeroValue194
  t66 := Tryz.underlying354
  a66 := Tryz.isAgg354
  z66 := Tryz.sizeOf354
  v66 := Tryz.zeroValue354
  t70 := Tryz.underlying358
  a70 := Tryz.isAgg358
  z70 := Tryz.sizeOf358
  v70 := Tryz.zeroValue358
  t76 := Tryz.underlying396
  a76 := Tryz.isAgg396
  z76 := Tryz.sizeOf396
  v76 := Tryz.zeroValue396
  t77 := Tryz.underlying397
  a77 := Tryz.isAgg397
  z77 := Tryz.sizeOf397
  v77 := Tryz.zeroValue397 }
open Go.RowKit Go.Lib Go.Sort in
theorem Tryz.slices_SortFunc_f80 {α : Type} [Inhabited α] (k : Nat) (aE : ∀ w, (isAgg (Tryz.laysSlF06_f80_ren.t 24)).run Tryz.prog w = .ok true w) (zE : ∀ w, (Go.sizeOf (Tryz.laysSlF06_f80_ren.t 24)).run Tryz.prog w = .ok k w) (enc : α → List Value) (hk : ∀ x, (enc x).length = k) (h1 : ∀ x, ∀ v ∈ enc x, v.oneCell' = true) (cf : α → α → Int) (hO : SWO (ltOf cf)) (g : Nat) (cb : Array Value) (blk off cap : Nat) (d : Array α) (w : World) (eg : ∀ args w, (callFunc g args).run Tryz.prog w = .ok (.enter g args) w) (hcmp : CmpLays Tryz.prog g cb enc k cf blk off d.size w) (hH : HoldsK enc k w blk off d) (hblk : blk < w.heap.size) (hsz : d.size < 4611686018427387904) :
    Calls Tryz.prog 80 #[.slice (some ⟨blk, off, none⟩) d.size cap, .func (.func g) #[] cb] w fun e w' =>
      e = .returned (.tuple #[]) ∧ ∃ d' n os, PermIn 0 d.size d d' ∧ SortedIn (ltOf cf) 0 d.size d' ∧ w' = sortWorldK enc k w blk off n d' os := AnyQ.slices_SortFunc Tryz.laysSlF06_f80 k aE zE enc hk h1 cf hO g cb blk off cap d w eg hcmp hH hblk hsz
def Tryz.laysSlF6_f142_ren : Go.Shelf.Ren := ⟨fun | 6 => 142 | 15 => 105 | 14 => 221 | 28 => 171 | 29 => 172 | 20 => 271 | 21 => 272 | 22 => 273 | 23 => 274 | 24 => 275 | 25 => 276 | 26 => 277 | 27 => 278 | 46 => 303 | 47 => 234 | 48 => 235 | 49 => 304 | 50 => 305 | 57 => 312 | n => n, fun | 22 => 95 | 24 => 98 | 25 => 272 | 3 => 3 | 39 => 230 | 0 => 0 | 53 => 303 | 55 => 194 | 4 => 4 | 46 => 296 | 45 => 295 | 50 => 113 | 5 => 5 | 9 => 9 | 66 => 354 | 70 => 358 | 76 => 396 | 77 => 397 | n => n, fun | n => n⟩
theorem Tryz.laysSlF6_f142 : Go.Proofs.SlLaysF.n6 Tryz.prog Tryz.laysSlF6_f142_ren := {
  mixed := by kernel_rfl
  f6 := ⟨Tryz.f142.name, by decide, Tryz.func142.trans (congrArg some (by kernel_rfl))⟩
  f14 := ⟨Tryz.f221.name, by decide, Tryz.func221.trans (congrArg some (by kernel_rfl))⟩
  f15 := Tryz.func105.trans (congrArg some (by kernel_rfl))
  f20 := ⟨Tryz.f271.name, by decide, Tryz.func271.trans (congrArg some (by kernel_rfl))⟩
  f21 := ⟨Tryz.f272.name, by decide, Tryz.func272.trans (congrArg some (by kernel_rfl))⟩
  f22 := ⟨Tryz.f273.name, by decide, Tryz.func273.trans (congrArg some (by kernel_rfl))⟩
  f23 := ⟨Tryz.f274.name, by decide, Tryz.func274.trans (congrArg some (by kernel_rfl))⟩
  f24 := ⟨Tryz.f275.name, by decide, Tryz.func275.trans (congrArg some (by kernel_rfl))⟩
  f25 := ⟨Tryz.f276.name, by decide, Tryz.func276.trans (congrArg some (by kernel_rfl))⟩
  f26 := ⟨Tryz.f277.name, by decide, Tryz.func277.trans (congrArg some (by kernel_rfl))⟩
  f27 := ⟨Tryz.f278.name, by decide, Tryz.func278.trans (congrArg some (by kernel_rfl))⟩
  f28 := Tryz.func171.trans (congrArg some (by kernel_rfl))
  f29 := Tryz.func172.trans (congrArg some (by kernel_rfl))
  f46 := ⟨Tryz.f303.name, by decide, Tryz.func303.trans (congrArg some (by kernel_rfl))⟩
  f47 := Tryz.func234.trans (congrArg some (by kernel_rfl))
  f48 := Tryz.func235.trans (congrArg some (by kernel_rfl))
  f49 := ⟨Tryz.f304.name, by decide, Tryz.func304.trans (congrArg some (by kernel_rfl))⟩
  f50 := ⟨Tryz.f305.name, by decide, Tryz.func305.trans (congrArg some (by kernel_rfl))⟩
  f57 := ⟨Tryz.f312.name, by decide, Tryz.func312.trans (congrArg some (by kernel_rfl))⟩
  t0 := Tryz.underlying0
  a0 := Tryz.isAgg0
  z0 := Tryz.sizeOf0
  v0 := Tryz.zeroValue0
  t3 := Tryz.underlying3
  a3 := Tryz.isAgg3
  z3 := Tryz.sizeOf3
  v3 := Tryz.zeroValue3
  t4 := Tryz.underlying4
  a4 := Tryz.isAgg4
  z4 := Tryz.sizeOf4
  v4 := Tryz.zeroValue4
  t5 := Tryz.underlying5
  a5 := Tryz.isAgg5
  z5 := Tryz.sizeOf5
  v5 := Tryz.zeroValue5
  t9 := Tryz.underlying9
  a9 := Tryz.isAgg9
  z9 := Tryz.sizeOf9
  v9 := Tryz.zeroValue9
  t22 := Tryz.underlying95
  a22 := Tryz.isAgg95
  z22 := Tryz.sizeOf95
  v22 := Tryz.zeroValue95
  a24 := Tryz.isAgg98
  z24 := Tryz.sizeOf98
  t25 := Tryz.underlying272
  a25 := Tryz.isAgg272
  z25 := Tryz.sizeOf272
  v25 := Tryz.zeroValue272
  t39 := Tryz.underlying230
  a39 := Tryz.isAgg230
  z39 := Tryz.sizeOf230
  v39 := Tryz.zeroValue230
  t45 := Tryz.underlying295
  a45 := Tryz.isAgg295
  z45 := Tryz.sizeOf295
  v45 := Tryz.zeroValue295
  t46 := Tryz.underlying296
  a46 := Tryz.isAgg296
  z46 := Tryz.sizeOf296
  v46 := Tryz.zeroValue296
  t50 := Tryz.underlying113
  a50 := Tryz.isAgg113
  z50 := Tryz.sizeOf113
  v50 := Tryz.zeroValue113
  t53 := Tryz.underlying303
  a53 := Tryz.isAgg303
  z53 := Tryz.sizeOf303
  v53 := Tryz.zeroValue303
  t55 := Tryz.underlying194
  a55 := Tryz.isAgg194
  z55 := Tryz.sizeOf194
  v55 := Tryz.zeroValue194
  t66 := Tryz.underlying354
  a66 := Tryz.isAgg354
  z66 := Tryz.sizeOf354
  v66 := Tryz.zeroValue354
  t70 := Tryz.underlying358
  a70 := Tryz.isAgg358
  z70 := Tryz.sizeOf358
  v70 := Tryz.zeroValue358
  t76 := Tryz.underlying396
  a76 := Tryz.isAgg396
  z76 := Tryz.sizeOf396
  v76 := Tryz.zeroValue396
  t77 := Tryz.underlying397
  a77 := Tryz.isAgg397
  z77 := Tryz.sizeOf397
  v77 := Tryz.zeroValue397 }
def Tryz.laysSlF6_f158_ren : Go.Shelf.Ren := ⟨fun | 6 => 158 | 15 => 105 | 14 => 231 | 28 => 171 | 29 => 172 | 20 => 282 | 21 => 283 | 22 => 284 | 23 => 285 | 24 => 286 | 25 => 287 | 26 => 288 | 27 => 289 | 46 => 307 | 47 => 234 | 48 => 235 | 49 => 308 | 50 => 309 | 57 => 313 | n => n, fun | 22 => 98 | 24 => 104 | 25 => 293 | 3 => 3 | 39 => 230 | 0 => 0 | 53 => 303 | 55 => 194 | 4 => 4 | 46 => 296 | 45 => 295 | 50 => 113 | 5 => 5 | 9 => 9 | 66 => 354 | 70 => 358 | 76 => 396 | 77 => 397 | n => n, fun | n => n⟩
theorem Tryz.laysSlF6_f158 : Go.Proofs.SlLaysF.n6 Tryz.prog Tryz.laysSlF6_f158_ren := {
  mixed := by kernel_rfl
  f6 := ⟨Tryz.f158.name, by decide, Tryz.func158.trans (congrArg some (by kernel_rfl))⟩
  f14 := ⟨Tryz.f231.name, by decide, Tryz.func231.trans (congrArg some (by kernel_rfl))⟩
  f15 := Tryz.func105.trans (congrArg some (by kernel_rfl))
  f20 := ⟨Tryz.f282.name, by decide, Tryz.func282.trans (congrArg some (by kernel_rfl))⟩
  f21 := ⟨Tryz.f283.name, by decide, Tryz.func283.trans (congrArg some (by kernel_rfl))⟩
  f22 := ⟨Tryz.f284.name, by decide, Tryz.func284.trans (congrArg some (by kernel_rfl))⟩
  f23 := ⟨Tryz.f285.name, by decide, Tryz.func285.trans (congrArg some (by kernel_rfl))⟩
  f24 := ⟨Tryz.f286.name, by decide, Tryz.func286.trans (congrArg some (by kernel_rfl))⟩
  f25 := ⟨Tryz.f287.name, by decide, Tryz.func287.trans (congrArg some (by kernel_rfl))⟩
  f26 := ⟨Tryz.f288.name, by decide, Tryz.func288.trans (congrArg some (by kernel_rfl))⟩
  f27 := ⟨Tryz.f289.name, by decide, Tryz.func289.trans (congrArg some (by kernel_rfl))⟩
  f28 := Tryz.func171.trans (congrArg some (by kernel_rfl))
  f29 := Tryz.func172.trans (congrArg some (by kernel_rfl))
  f46 := ⟨Tryz.f307.name, by decide, Tryz.func307.trans (congrArg some (by kernel_rfl))⟩
  f47 := Tryz.func234.trans (congrArg some (by kernel_rfl))
  f48 := Tryz.func235.trans (congrArg some (by kernel_rfl))
  f49 := ⟨Tryz.f308.name, by decide, Tryz.func308.trans (congrArg some (by kernel_rfl))⟩
  f50 := ⟨Tryz.f309.name, by decide, Tryz.func309.trans (congrArg some (by kernel_rfl))⟩
  f57 := ⟨Tryz.f313.name, by decide, Tryz.func313.trans (congrArg some (by kernel_rfl))⟩
  t0 := Tryz.underlying0
  a0 := Tryz.isAgg0
  z0 := Tryz.sizeOf0
  v0 := Tryz.zeroValue0
  t3 := Tryz.underlying3
  a3 := Tryz.isAgg3
  z3 := Tryz.sizeOf3
  v3 := Tryz.zeroValue3
  t4 := Tryz.underlying4
  a4 := Tryz.isAgg4
  z4 := Tryz.sizeOf4
  v4 := Tryz.zeroValue4
  t5 := Tryz.underlying5
  a5 := Tryz.isAgg5
  z5 := Tryz.sizeOf5
  v5 := Tryz.zeroValue5
  t9 := Tryz.underlying9
  a9 := Tryz.isAgg9
  z9 := Tryz.sizeOf9
  v9 := Tryz.zeroValue9
  t22 := Tryz.underlying98
  a22 := Tryz.isAgg98
  z22 := Tryz.sizeOf98
  v22 := Tryz.zeroValue98
  a24 := Tryz.isAgg104
  z24 := Tryz.sizeOf104
  t25 := Tryz.underlying293
  a25 := Tryz.isAgg293
  z25 := Tryz.sizeOf293
  v25 := Tryz.zeroValue293
  t39 := Tryz.underlying230
  a39 := Tryz.isAgg230
  z39 := Tryz.sizeOf230
  v39 := Tryz.zeroValue230
  t45 := Tryz.underlying295
  a45 := Tryz.isAgg295
  z45 := Tryz.sizeOf295
  v45 := Tryz.zeroValue295
  t46 := Tryz.underlying296
  a46 := Tryz.isAgg296
  z46 := Tryz.sizeOf296
  v46 := Tryz.zeroValue296
  t50 := Tryz.underlying113
  a50 := Tryz.isAgg113
  z50 := Tryz.sizeOf113
  v50 := Tryz.zeroValue113
  t53 := Tryz.underlying303
  a53 := Tryz.isAgg303
  z53 := Tryz.sizeOf303
  v53 := Tryz.zeroValue303
  t55 := Tryz.underlying194
  a55 := Tryz.isAgg194
  z55 := Tryz.sizeOf194
  v55 := Tryz.zeroValue194
  t66 := Tryz.underlying354
  a66 := Tryz.isAgg354
  z66 := Tryz.sizeOf354
  v66 := Tryz.zeroValue354
  t70 := Tryz.underlying358
  a70 := Tryz.isAgg358
  z70 := Tryz.sizeOf358
  v70 := Tryz.zeroValue358
  t76 := Tryz.underlying396
  a76 := Tryz.isAgg396
  z76 := Tryz.sizeOf396
  v76 := Tryz.zeroValue396
  t77 := Tryz.underlying397
  a77 := Tryz.isAgg397
  z77 := Tryz.sizeOf397
  v77 := Tryz.zeroValue397 }
open Go.RowKit Go.Lib Go.Sort in
theorem Tryz.slices_SortFunc_f142 {α : Type} [Inhabited α] (enc : α → Value) (h1 : OneCell enc) (cf : α → α → Int) (hO : SWO (ltOf cf)) (g : Nat) (cb : Array Value) (blk off cap : Nat) (d : Array α) (w : World) (eg : ∀ args w, (callFunc g args).run Tryz.prog w = .ok (.enter g args) w) (hcmp : CmpLays1 Tryz.prog g cb enc cf blk off d.size w) (hH : Holds enc w blk off d) (hblk : blk < w.heap.size) (hsz : d.size < 4611686018427387904) :
    Calls Tryz.prog 142 #[.slice (some ⟨blk, off, none⟩) d.size cap, .func (.func g) #[] cb] w fun e w' =>
      e = .returned (.tuple #[]) ∧ ∃ d' n os, PermIn 0 d.size d d' ∧ SortedIn (ltOf cf) 0 d.size d' ∧ w' = sortWorld enc w blk off n d' os := Any.slices_SortFunc Tryz.laysSlF6_f142 enc h1 cf hO g cb blk off cap d w eg hcmp hH hblk hsz
open Go.RowKit Go.Lib Go.Sort in
theorem Tryz.slices_SortFunc_none_f65 {α : Type} [Inhabited α] (p : Option Addr) (cap : Nat) (fv : Value) (w : World) :
    Calls Tryz.prog 65 #[.slice p 0 cap, fv] w fun e w' => e = .returned (.tuple #[]) ∧ w' = w := AnyF.slices_SortFunc_none Tryz.laysSlF06_f65 p cap fv w
open Go.RowKit Go.Lib Go.Sort in
theorem Tryz.slices_SortFunc_none_f80 {α : Type} [Inhabited α] (p : Option Addr) (cap : Nat) (fv : Value) (w : World) :
    Calls Tryz.prog 80 #[.slice p 0 cap, fv] w fun e w' => e = .returned (.tuple #[]) ∧ w' = w := AnyF.slices_SortFunc_none Tryz.laysSlF06_f80 p cap fv w
open Go.RowKit Go.Lib Go.Sort in
theorem Tryz.slices_SortFunc_total_f158 {α : Type} [Inhabited α] (enc : α → Value) (h1 : OneCell enc) (cf : α → α → Int) (hO : SWO (ltOf cf)) (g : Nat) (cb : Array Value) (blk off cap : Nat) (d : Array α) (w : World) (eg : ∀ args w, (callFunc g args).run Tryz.prog w = .ok (.enter g args) w) (hcmp : CmpLays1 Tryz.prog g cb enc cf blk off d.size w) (hH : Holds enc w blk off d) (hblk : blk < w.heap.size) (hsz : d.size < 4611686018427387904) (hT : ∀ x y, (ltOf cf) x y = false → (ltOf cf) y x = false → x = y) :
    Calls Tryz.prog 158 #[.slice (some ⟨blk, off, none⟩) d.size cap, .func (.func g) #[] cb] w fun e w' =>
      e = .returned (.tuple #[]) ∧ ∃ n os, w' = sortWorld enc w blk off n (d.toList.mergeSort fun x y => !(ltOf cf) y x).toArray os := Any.slices_SortFunc_total Tryz.laysSlF6_f158 enc h1 cf hO g cb blk off cap d w eg hcmp hH hblk hsz hT
open Go.RowKit Go.Lib Go.Sort in
theorem Tryz.slices_SortFunc_total_f64 {α : Type} [Inhabited α] (k : Nat) (aE : ∀ w, (isAgg (Tryz.laysSlF06_f64_ren.t 24)).run Tryz.prog w = .ok true w) (zE : ∀ w, (Go.sizeOf (Tryz.laysSlF06_f64_ren.t 24)).run Tryz.prog w = .ok k w) (enc : α → List Value) (hk : ∀ x, (enc x).length = k) (h1 : ∀ x, ∀ v ∈ enc x, v.oneCell' = true) (cf : α → α → Int) (hO : SWO (ltOf cf)) (g : Nat) (cb : Array Value) (blk off cap : Nat) (d : Array α) (w : World) (eg : ∀ args w, (callFunc g args).run Tryz.prog w = .ok (.enter g args) w) (hcmp : CmpLays Tryz.prog g cb enc k cf blk off d.size w) (hH : HoldsK enc k w blk off d) (hblk : blk < w.heap.size) (hsz : d.size < 4611686018427387904) (hT : ∀ x y, (ltOf cf) x y = false → (ltOf cf) y x = false → x = y) :
    Calls Tryz.prog 64 #[.slice (some ⟨blk, off, none⟩) d.size cap, .func (.func g) #[] cb] w fun e w' =>
      e = .returned (.tuple #[]) ∧ ∃ n os, w' = sortWorldK enc k w blk off n (d.toList.mergeSort fun x y => !(ltOf cf) y x).toArray os := AnyQ.slices_SortFunc_total Tryz.laysSlF06_f64 k aE zE enc hk h1 cf hO g cb blk off cap d w eg hcmp hH hblk hsz hT
open Go.RowKit Go.Lib Go.Sort in
theorem Tryz.slices_SortFunc_total_f65 {α : Type} [Inhabited α] (k : Nat) (aE : ∀ w, (isAgg (Tryz.laysSlF06_f65_ren.t 24)).run Tryz.prog w = .ok true w) (zE : ∀ w, (Go.sizeOf (Tryz.laysSlF06_f65_ren.t 24)).run Tryz.prog w = .ok k w) (enc : α → List Value) (hk : ∀ x, (enc x).length = k) (h1 : ∀ x, ∀ v ∈ enc x, v.oneCell' = true) (cf : α → α → Int) (hO : SWO (ltOf cf)) (g : Nat) (cb : Array Value) (blk off cap : Nat) (d : Array α) (w : World) (eg : ∀ args w, (callFunc g args).run Tryz.prog w = .ok (.enter g args) w) (hcmp : CmpLays Tryz.prog g cb enc k cf blk off d.size w) (hH : HoldsK enc k w blk off d) (hblk : blk < w.heap.size) (hsz : d.size < 4611686018427387904) (hT : ∀ x y, (ltOf cf) x y = false → (ltOf cf) y x = false → x = y) :
    Calls Tryz.prog 65 #[.slice (some ⟨blk, off, none⟩) d.size cap, .func (.func g) #[] cb] w fun e w' =>
      e = .returned (.tuple #[]) ∧ ∃ n os, w' = sortWorldK enc k w blk off n (d.toList.mergeSort fun x y => !(ltOf cf) y x).toArray os := AnyQ.slices_SortFunc_total Tryz.laysSlF06_f65 k aE zE enc hk h1 cf hO g cb blk off cap d w eg hcmp hH hblk hsz hT
end Go.Proofs
