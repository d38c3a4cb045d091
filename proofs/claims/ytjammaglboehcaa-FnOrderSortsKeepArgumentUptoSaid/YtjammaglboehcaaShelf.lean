/-
  The kit's contracts at this seat's program, laid by the kit's own tools.
-/
import Derived.Shelf.Small.Bits
import Derived.Shelf.Strconv.Itoa0
import Derived.Shelf.Sort.Plain
import Derived.Ground.GgsProg
import Derived.Shelf.GgSortFunc.Insertion
import Derived.Shelf.GgSortFunc.InsertionK
import Derived.Shelf.GgSortFunc.Compose
import Derived.Ground.Names2Prog
import Derived.Shelf.Slices.SearchI
import Derived.Shelf.Slices.In.SortNone
import Derived.Shelf.SlSortFunc.Xorshift
import Derived.Shelf.SlSortFuncK.ComposeK
import Derived.Ground.SlsfProg
import Derived.Shelf.SlSortCmp.Insertion
import Derived.Shelf.SlSortCmp.SiftDown1
import Derived.Shelf.SlSortCmp.HeapSort1
import Derived.Shelf.SlSortCmp.Insertion1
import Derived.Shelf.SlSortCmp.Median1
import Derived.Shelf.SlSortCmp.Pivot1
import Derived.Shelf.SlSortCmp.ReverseRange1
import Derived.Shelf.SlSortCmp.PartialInsertion1
import Derived.Shelf.SlSortCmp.PartitionEqual1
import Derived.Shelf.SlSortCmp.Partition1
import Derived.Shelf.SlSortCmp.Pdq1
import Derived.Shelf.SlSortCmp.Whole1
import Derived.Shelf.SlSortCmp.NoneTotal
import Derived.Test.YtjammaglboehcaaProg
namespace Go.Proofs
open Go.Shelf
def Try.lays128_ren : Go.Shelf.Ren := ⟨fun | 128 => 79 | n => n, fun | 51 => 102 | 3 => 3 | 4 => 4 | 46 => 72 | 5 => 5 | 9 => 9 | n => n, fun | n => n⟩
theorem Try.lays128 : Go.Proofs.Lays.n128 Try.prog Try.lays128_ren := {
  mixed := by kernel_rfl
  f128 := Try.func79.trans (congrArg some (by kernel_rfl))
  t3 := Try.underlying3
  a3 := Try.isAgg3
  z3 := Try.sizeOf3
  v3 := Try.zeroValue3
  t4 := Try.underlying4
  a4 := Try.isAgg4
  z4 := Try.sizeOf4
  v4 := Try.zeroValue4
  t5 := Try.underlying5
  a5 := Try.isAgg5
  z5 := Try.sizeOf5
  v5 := Try.zeroValue5
  t9 := Try.underlying9
  a9 := Try.isAgg9
  z9 := Try.sizeOf9
  v9 := Try.zeroValue9
  t46 := Try.underlying72
  a46 := Try.isAgg72
  z46 := Try.sizeOf72
  v46 := Try.zeroValue72
  t51 := Try.underlying102
  a51 := Try.isAgg102
  z51 := Try.sizeOf102
  v51 := Try.zeroValue102 }
theorem Try.bits_Len32 (x : Int) (w : World) (h0 : 0 ≤ x) (h1 : x ≤ 4294967295) :
    Calls Try.prog 79 #[.int .u32 x] w fun e w' => e = .returned (.int .i64 (Lib.bitLen x.toNat)) ∧ w' = w := Any.bits_Len32 Try.lays128 x w h0 h1
def Try.lays125_ren : Go.Shelf.Ren := ⟨fun | 125 => 58 | 128 => 79 | 129 => 80 | n => n, fun | 46 => 72 | 3 => 3 | 51 => 102 | 53 => 104 | 4 => 4 | 5 => 5 | 9 => 9 | n => n, fun | n => n⟩
theorem Try.lays125 : Go.Proofs.Lays.n125 Try.prog Try.lays125_ren := {
  mixed := by kernel_rfl
  f125 := Try.func58.trans (congrArg some (by kernel_rfl))
  f128 := Try.func79.trans (congrArg some (by kernel_rfl))
  f129 := Try.func80.trans (congrArg some (by kernel_rfl))
  t3 := Try.underlying3
  a3 := Try.isAgg3
  z3 := Try.sizeOf3
  v3 := Try.zeroValue3
  t4 := Try.underlying4
  a4 := Try.isAgg4
  z4 := Try.sizeOf4
  v4 := Try.zeroValue4
  t5 := Try.underlying5
  a5 := Try.isAgg5
  z5 := Try.sizeOf5
  v5 := Try.zeroValue5
  t9 := Try.underlying9
  a9 := Try.isAgg9
  z9 := Try.sizeOf9
  v9 := Try.zeroValue9
  t46 := Try.underlying72
  a46 := Try.isAgg72
  z46 := Try.sizeOf72
  v46 := Try.zeroValue72
  t51 := Try.underlying102
  a51 := Try.isAgg102
  z51 := Try.sizeOf102
  v51 := Try.zeroValue102
  t53 := Try.underlying104
  a53 := Try.isAgg104
  z53 := Try.sizeOf104
  v53 := Try.zeroValue104 }
theorem Try.bits_Len (x : Int) (w : World) (h0 : 0 ≤ x) (h1 : x ≤ 18446744073709551615) :
    Calls Try.prog 58 #[.int .u64 x] w fun e w' => e = .returned (.int .i64 (Lib.bitLen x.toNat)) ∧ w' = w := Any.bits_Len Try.lays125 x w h0 h1
def Try.lays129_ren : Go.Shelf.Ren := ⟨fun | 129 => 80 | n => n, fun | 53 => 104 | 3 => 3 | 4 => 4 | 46 => 72 | 5 => 5 | 9 => 9 | n => n, fun | n => n⟩
theorem Try.lays129 : Go.Proofs.Lays.n129 Try.prog Try.lays129_ren := {
  mixed := by kernel_rfl
  f129 := Try.func80.trans (congrArg some (by kernel_rfl))
  t3 := Try.underlying3
  a3 := Try.isAgg3
  z3 := Try.sizeOf3
  v3 := Try.zeroValue3
  t4 := Try.underlying4
  a4 := Try.isAgg4
  z4 := Try.sizeOf4
  v4 := Try.zeroValue4
  t5 := Try.underlying5
  a5 := Try.isAgg5
  z5 := Try.sizeOf5
  v5 := Try.zeroValue5
  t9 := Try.underlying9
  a9 := Try.isAgg9
  z9 := Try.sizeOf9
  v9 := Try.zeroValue9
  t46 := Try.underlying72
  a46 := Try.isAgg72
  z46 := Try.sizeOf72
  v46 := Try.zeroValue72
  t53 := Try.underlying104
  a53 := Try.isAgg104
  z53 := Try.sizeOf104
  v53 := Try.zeroValue104 }
theorem Try.bits_Len64 (x : Int) (w : World) (h0 : 0 ≤ x) (h1 : x ≤ 18446744073709551615) :
    Calls Try.prog 80 #[.int .u64 x] w fun e w' => e = .returned (.int .i64 (Lib.bitLen x.toNat)) ∧ w' = w := Any.bits_Len64 Try.lays129 x w h0 h1
def Try.lays189_ren : Go.Shelf.Ren := ⟨fun | 189 => 46 | 125 => 58 | 257 => 67 | 128 => 79 | 129 => 80 | 294 => 102 | 295 => 103 | 296 => 104 | 297 => 105 | 298 => 106 | 299 => 107 | 216 => 108 | 300 => 109 | 301 => 110 | 328 => 133 | 329 => 121 | 330 => 122 | 331 => 134 | 332 => 135 | 215 => 136 | 343 => 146 | n => n, fun | 28 => 25 | 3 => 3 | 46 => 72 | 0 => 0 | 51 => 102 | 53 => 104 | 4 => 4 | 183 => 95 | 182 => 94 | 131 => 99 | 5 => 5 | 9 => 9 | 218 => 127 | 222 => 131 | 228 => 141 | 229 => 142 | n => n, fun | n => n⟩
theorem Try.lays189 : Go.Proofs.Lays.n189 Try.prog Try.lays189_ren := {
  mixed := by kernel_rfl
  f125 := Try.func58.trans (congrArg some (by kernel_rfl))
  f128 := Try.func79.trans (congrArg some (by kernel_rfl))
  f129 := Try.func80.trans (congrArg some (by kernel_rfl))
  f189 := Try.func46.trans (congrArg some (by kernel_rfl))
  f215 := Try.func136.trans (congrArg some (by kernel_rfl))
  f216 := Try.func108.trans (congrArg some (by kernel_rfl))
  f257 := Try.func67.trans (congrArg some (by kernel_rfl))
  f294 := Try.func102.trans (congrArg some (by kernel_rfl))
  f295 := Try.func103.trans (congrArg some (by kernel_rfl))
  f296 := Try.func104.trans (congrArg some (by kernel_rfl))
  f297 := Try.func105.trans (congrArg some (by kernel_rfl))
  f298 := Try.func106.trans (congrArg some (by kernel_rfl))
  f299 := Try.func107.trans (congrArg some (by kernel_rfl))
  f300 := Try.func109.trans (congrArg some (by kernel_rfl))
  f301 := Try.func110.trans (congrArg some (by kernel_rfl))
  f328 := Try.func133.trans (congrArg some (by kernel_rfl))
  f329 := Try.func121.trans (congrArg some (by kernel_rfl))
  f330 := Try.func122.trans (congrArg some (by kernel_rfl))
  f331 := Try.func134.trans (congrArg some (by kernel_rfl))
  f332 := Try.func135.trans (congrArg some (by kernel_rfl))
  f343 := Try.func146.trans (congrArg some (by kernel_rfl))
  t0 := Try.underlying0
  a0 := Try.isAgg0
  z0 := Try.sizeOf0
  v0 := Try.zeroValue0
  t3 := Try.underlying3
  a3 := Try.isAgg3
  z3 := Try.sizeOf3
  v3 := Try.zeroValue3
  t4 := Try.underlying4
  a4 := Try.isAgg4
  z4 := Try.sizeOf4
  v4 := Try.zeroValue4
  t5 := Try.underlying5
  a5 := Try.isAgg5
  z5 := Try.sizeOf5
  v5 := Try.zeroValue5
  t9 := Try.underlying9
  a9 := Try.isAgg9
  z9 := Try.sizeOf9
  v9 := Try.zeroValue9
  t28 := Try.underlying25
  a28 := Try.isAgg25
  z28 := Try.sizeOf25
  v28 := Try.zeroValue25
  t46 := Try.underlying72
  a46 := Try.isAgg72
  z46 := Try.sizeOf72
  v46 := Try.zeroValue72
  t51 := Try.underlying102
  a51 := Try.isAgg102
  z51 := Try.sizeOf102
  v51 := Try.zeroValue102
  t53 := Try.underlying104
  a53 := Try.isAgg104
  z53 := Try.sizeOf104
  v53 := Try.zeroValue104
  t131 := Try.underlying99
  a131 := Try.isAgg99
  z131 := Try.sizeOf99
  v131 := Try.zeroValue99
  t182 := Try.underlying94
  a182 := Try.isAgg94
  z182 := Try.sizeOf94
  v182 := Try.zeroValue94
  t183 := Try.underlying95
  a183 := Try.isAgg95
  z183 := Try.sizeOf95
  v183 := Try.zeroValue95
  t218 := Try.underlying127
  a218 := Try.isAgg127
  z218 := Try.sizeOf127
  v218 := Try.zeroValue127
  t222 := Try.underlying131
  a222 := Try.isAgg131
  z222 := Try.sizeOf131
  v222 := Try.zeroValue131
  t228 := Try.underlying141
  a228 := Try.isAgg141
  z228 := Try.sizeOf141
  v228 := Try.zeroValue141
  t229 := Try.underlying142
  a229 := Try.isAgg142
  z229 := Try.sizeOf142
  v229 := Try.zeroValue142 }
open Go.Sort Go.RowKit in
theorem Try.slices_Sort_int (blk off cap : Nat) (zs : List Int) (w : World) (hH : Holds (Value.int .i64) w blk off zs.toArray) (hblk : blk < w.heap.size) (hsz : zs.length < 4611686018427387904) :
    Calls Try.prog 46 #[.slice (some ⟨blk, off, none⟩) zs.length cap] w fun e w' =>
      e = .returned (.tuple #[]) ∧ ∃ n os, w' = grow (putRow (Value.int .i64) (Sort.ahead w n) blk off (zs.mergeSort fun x y => decide (x ≤ y)).toArray) os := Any.slices_Sort_int Try.lays189 blk off cap zs w hH hblk hsz
def Try.laysGg26_ren : Go.Shelf.Ren := ⟨fun | 26 => 100 | n => n, fun | 44 => 88 | 3 => 3 | 0 => 0 | 4 => 4 | 26 => 53 | 37 => 84 | n => n, fun | n => n⟩
theorem Try.laysGg26 : Go.Proofs.LaysGg.n26 Try.prog Try.laysGg26_ren := {
  mixed := by kernel_rfl
  f26 := Try.func100.trans (congrArg some (by kernel_rfl))
  t0 := Try.underlying0
  a0 := Try.isAgg0
  z0 := Try.sizeOf0
  v0 := Try.zeroValue0
  i0 := by kernel_rfl
  t3 := Try.underlying3
  a3 := Try.isAgg3
  z3 := Try.sizeOf3
  v3 := Try.zeroValue3
  i3 := by kernel_rfl
  t4 := Try.underlying4
  a4 := Try.isAgg4
  z4 := Try.sizeOf4
  v4 := Try.zeroValue4
  i4 := by kernel_rfl
  t26 := Try.underlying53
  a26 := Try.isAgg53
  z26 := Try.sizeOf53
  v26 := Try.zeroValue53
  i26 := by kernel_rfl
  t37 := Try.underlying84
  a37 := Try.isAgg84
  z37 := Try.sizeOf84
  v37 := Try.zeroValue84
  i37 := by kernel_rfl
  t44 := Try.underlying88
  a44 := Try.isAgg88
  z44 := Try.sizeOf88
  v44 := Try.zeroValue88
  i44 := by kernel_rfl }
open Go.RowKit Go.Lib Go.Sort in
theorem Try.insertionSort_func_one {α : Type} [Inhabited α] (enc : α → Value) (lt : α → α → Bool) (g : Nat) (lb : Array Value) (sf : Nat) (sb : Array Value) (blk off a b : Nat) (d : Array α) (w : World) (eg : ∀ args w, (callFunc g args).run Try.prog w = .ok (.enter g args) w) (hless : LessReads Try.prog g lb enc lt blk off d.size w) (hswap : SwapSwaps Try.prog sf sb enc blk off d.size) (hH : Holds enc w blk off d) (hblk : blk < w.heap.size) (hab : a ≤ b) (hb : b ≤ d.size) (hsz : d.size < 4611686018427387904) :
    Calls Try.prog 100 #[.agg #[.func (.func g) #[] lb, .func (.func sf) #[] sb], .int .i64 a, .int .i64 b] w fun e w' =>
      e = .returned (.tuple #[]) ∧ ∃ n, w' = putRow enc (Sort.ahead (w.alloc (.cells #[.func (.func g) #[] lb, .func (.func sf) #[] sb] 88)) n) blk off (Sort.insertionSort lt d a b) := Any.insertionSort_func_one Try.laysGg26 enc lt g lb sf sb blk off a b d w eg hless hswap hH hblk hab hb hsz
open Go.RowKit Go.Lib Go.Sort in
theorem Try.insertionSort_func_cells {α : Type} [Inhabited α] (enc : α → List Value) (k : Nat) (hk : ∀ x, (enc x).length = k) (lt : α → α → Bool) (g : Nat) (lb : Array Value) (sf : Nat) (sb : Array Value) (blk off a b : Nat) (d : Array α) (w : World) (eg : ∀ args w, (callFunc g args).run Try.prog w = .ok (.enter g args) w) (hless : LessReadsK Try.prog g lb enc k lt blk off d.size w) (hswap : SwapSwapsK Try.prog sf sb enc k blk off d.size) (hH : HoldsK enc k w blk off d) (hblk : blk < w.heap.size) (hab : a ≤ b) (hb : b ≤ d.size) (hsz : d.size < 4611686018427387904) :
    Calls Try.prog 100 #[.agg #[.func (.func g) #[] lb, .func (.func sf) #[] sb], .int .i64 a, .int .i64 b] w fun e w' =>
      e = .returned (.tuple #[]) ∧ ∃ n, w' = putRowK enc k (Sort.ahead (w.alloc (.cells #[.func (.func g) #[] lb, .func (.func sf) #[] sb] 88)) n) blk off (Sort.insertionSort lt d a b) := Any.insertionSort_func_cells Try.laysGg26 enc k hk lt g lb sf sb blk off a b d w eg hless hswap hH hblk hab hb hsz
open Go.RowKit Go.Lib Go.Sort in
theorem Try.insertionSort_func_w {α : Type} [Inhabited α] (enc : α → Value) (lt : α → α → Bool) (g : Nat) (lb : Array Value) (sf : Nat) (sb : Array Value) (blk off a b : Nat) (d : Array α) (w : World) (eg : ∀ args w, (callFunc g args).run Try.prog w = .ok (.enter g args) w) (hless : LessReads Try.prog g lb enc lt blk off d.size w) (hswap : SwapSwaps Try.prog sf sb enc blk off d.size) (hH : Holds enc w blk off d) (hblk : blk < w.heap.size) (hab : a ≤ b) (hb : b ≤ d.size) (hsz : d.size < 4611686018427387904) :
    Calls Try.prog 100 #[.agg #[.func (.func g) #[] lb, .func (.func sf) #[] sb], .int .i64 a, .int .i64 b] w fun e w' => e = .returned (.tuple #[]) ∧ ∃ n os, w' = sortWorld enc w blk off n (Sort.insertionSort lt d a b) os := Any.insertionSort_func_w Try.laysGg26 enc lt g lb sf sb blk off a b d w eg hless hswap hH hblk hab hb hsz
def Try.laysNm237_ren : Go.Shelf.Ren := ⟨fun | 37 => 136 | n => n, fun | 3 => 3 | 4 => 4 | n => n, fun | n => n⟩
theorem Try.laysNm237 : Go.Proofs.Lays2.n37 Try.prog Try.laysNm237_ren := {
  mixed := by kernel_rfl
  f37 := Try.func136.trans (congrArg some (by kernel_rfl))
  t3 := Try.underlying3
  a3 := Try.isAgg3
  z3 := Try.sizeOf3
  v3 := Try.zeroValue3
  t4 := Try.underlying4
  a4 := Try.isAgg4
  z4 := Try.sizeOf4
  v4 := Try.zeroValue4 }
open Go.RowKit Go.Lib in
theorem Try.cmp_isNaN_int2 (x : Int) (w : World) :
    Calls Try.prog 136 #[.int .i64 x] w fun e w' => e = .returned (.bool false) ∧ w' = w := Any.cmp_isNaN_int2 Try.laysNm237 x w
def Try.laysNm231_ren : Go.Shelf.Ren := ⟨fun | 31 => 108 | 37 => 136 | n => n, fun | 3 => 3 | 4 => 4 | n => n, fun | n => n⟩
theorem Try.laysNm231 : Go.Proofs.Lays2.n31 Try.prog Try.laysNm231_ren := {
  mixed := by kernel_rfl
  f31 := Try.func108.trans (congrArg some (by kernel_rfl))
  f37 := Try.func136.trans (congrArg some (by kernel_rfl))
  t3 := Try.underlying3
  a3 := Try.isAgg3
  z3 := Try.sizeOf3
  v3 := Try.zeroValue3
  t4 := Try.underlying4
  a4 := Try.isAgg4
  z4 := Try.sizeOf4
  v4 := Try.zeroValue4 }
open Go.RowKit Go.Lib in
theorem Try.cmp_Less_int2 (x y : Int) (w : World) :
    Calls Try.prog 108 #[.int .i64 x, .int .i64 y] w fun e w' => e = .returned (.bool (decide (x < y))) ∧ w' = w := Any.cmp_Less_int2 Try.laysNm231 x y w
open Go.RowKit Go.Sort in
theorem Try.slices_Sort_int_none (p : Option Addr) (cap : Nat) (w : World) :
    Calls Try.prog 46 #[.slice p 0 cap] w fun e w' => e = .returned (.tuple #[]) ∧ w' = w := Any.slices_Sort_int_none Try.lays189 p cap w
def Try.laysGg36_ren : Go.Shelf.Ren := ⟨fun | 36 => 127 | n => n, fun | 66 => 144 | 51 => 104 | 0 => 0 | 60 => 133 | 41 => 72 | n => n, fun | n => n⟩
theorem Try.laysGg36 : Go.Proofs.LaysGg.n36 Try.prog Try.laysGg36_ren := {
  mixed := by kernel_rfl
  f36 := Try.func127.trans (congrArg some (by kernel_rfl))
  t0 := Try.underlying0
  a0 := Try.isAgg0
  z0 := Try.sizeOf0
  v0 := Try.zeroValue0
  i0 := by kernel_rfl
  t41 := Try.underlying72
  a41 := Try.isAgg72
  z41 := Try.sizeOf72
  v41 := Try.zeroValue72
  i41 := by kernel_rfl
  t51 := Try.underlying104
  a51 := Try.isAgg104
  z51 := Try.sizeOf104
  v51 := Try.zeroValue104
  i51 := by kernel_rfl
  t60 := Try.underlying133
  a60 := Try.isAgg133
  z60 := Try.sizeOf133
  v60 := Try.zeroValue133
  i60 := by kernel_rfl
  t66 := Try.underlying144
  a66 := Try.isAgg144
  z66 := Try.sizeOf144
  v66 := Try.zeroValue144
  i66 := by kernel_rfl }
open Go.RowKit Go.Lib Go.Sort in
theorem Try.xorshift_Next (rb ro X : Nat) (hX : X < 18446744073709551616) (w : World) (hc : w.cell? ⟨rb, ro, none⟩ = some (.int .u64 X)) (hf : w.frozen? ⟨rb, ro, none⟩ = false) :
    Calls Try.prog 127 #[.pointer (some ⟨rb, ro, none⟩)] w fun e w' => e = .returned (.int .u64 (xorNextN X : Nat)) ∧ w' = (w.setCell ⟨rb, ro, none⟩ (.int .u64 (xorNextN X : Nat))).drewN 3 := Any.xorshift_Next Try.laysGg36 rb ro X hX w hc hf
def Try.laysGg35_ren : Go.Shelf.Ren := ⟨fun | 35 => 126 | 13 => 58 | 24 => 79 | 25 => 80 | n => n, fun | 3 => 3 | 41 => 72 | 49 => 102 | 51 => 104 | 4 => 4 | 5 => 5 | 9 => 9 | n => n, fun | n => n⟩
theorem Try.laysGg35 : Go.Proofs.LaysGg.n35 Try.prog Try.laysGg35_ren := {
  mixed := by kernel_rfl
  f13 := Try.func58.trans (congrArg some (by kernel_rfl))
  f24 := Try.func79.trans (congrArg some (by kernel_rfl))
  f25 := Try.func80.trans (congrArg some (by kernel_rfl))
  f35 := Try.func126.trans (congrArg some (by kernel_rfl))
  t3 := Try.underlying3
  a3 := Try.isAgg3
  z3 := Try.sizeOf3
  v3 := Try.zeroValue3
  i3 := by kernel_rfl
  t4 := Try.underlying4
  a4 := Try.isAgg4
  z4 := Try.sizeOf4
  v4 := Try.zeroValue4
  i4 := by kernel_rfl
  t5 := Try.underlying5
  a5 := Try.isAgg5
  z5 := Try.sizeOf5
  v5 := Try.zeroValue5
  i5 := by kernel_rfl
  t9 := Try.underlying9
  a9 := Try.isAgg9
  z9 := Try.sizeOf9
  v9 := Try.zeroValue9
  i9 := by kernel_rfl
  t41 := Try.underlying72
  a41 := Try.isAgg72
  z41 := Try.sizeOf72
  v41 := Try.zeroValue72
  i41 := by kernel_rfl
  t49 := Try.underlying102
  a49 := Try.isAgg102
  z49 := Try.sizeOf102
  v49 := Try.zeroValue102
  i49 := by kernel_rfl
  t51 := Try.underlying104
  a51 := Try.isAgg104
  z51 := Try.sizeOf104
  v51 := Try.zeroValue104
  i51 := by kernel_rfl }
open Go.RowKit Go.Lib Go.Sort in
theorem Try.nextPowerOfTwo (n : Nat) (hn : n < 4611686018427387904) (w : World) :
    Calls Try.prog 126 #[.int .i64 n] w fun e w' => e = .returned (.int .u64 ((1 <<< bitsLen n : Nat) : Int)) ∧ w' = w := Any.nextPowerOfTwo Try.laysGg35 n hn w
open Go.RowKit Go.Lib Go.Sort in
theorem Try.insertionSort_func_cells_w {α : Type} [Inhabited α] (enc : α → List Value) (k : Nat) (hk : ∀ x, (enc x).length = k) (lt : α → α → Bool) (g : Nat) (lb : Array Value) (sf : Nat) (sb : Array Value) (blk off a b : Nat) (d : Array α) (w : World) (eg : ∀ args w, (callFunc g args).run Try.prog w = .ok (.enter g args) w) (hless : LessReadsK Try.prog g lb enc k lt blk off d.size w) (hswap : SwapSwapsK Try.prog sf sb enc k blk off d.size) (hH : HoldsK enc k w blk off d) (hblk : blk < w.heap.size) (hab : a ≤ b) (hb : b ≤ d.size) (hsz : d.size < 4611686018427387904) :
    Calls Try.prog 100 #[.agg #[.func (.func g) #[] lb, .func (.func sf) #[] sb], .int .i64 a, .int .i64 b] w fun e w' => e = .returned (.tuple #[]) ∧ ∃ n os, w' = sortWorldK enc k w blk off n (Sort.insertionSort lt d a b) os := Any.insertionSort_func_cells_w Try.laysGg26 enc k hk lt g lb sf sb blk off a b d w eg hless hswap hH hblk hab hb hsz
def Try.laysSlF20_f111_ren : Go.Shelf.Ren := ⟨fun | 20 => 111 | n => n, fun | 24 => 3 | 22 => 25 | 3 => 3 | 25 => 60 | 4 => 4 | 0 => 0 | n => n, fun | n => n⟩
theorem Try.laysSlF20_f111 : Go.Proofs.SlLaysF.n20 Try.prog Try.laysSlF20_f111_ren := {
  mixed := by kernel_rfl
  f20 := ⟨Try.f111.name, by decide, Try.func111.trans (congrArg some (by kernel_rfl))⟩
  t0 := Try.underlying0
  a0 := Try.isAgg0
  z0 := Try.sizeOf0
  v0 := Try.zeroValue0
  t3 := Try.underlying3
  a3 := Try.isAgg3
  z3 := Try.sizeOf3
  v3 := Try.zeroValue3
  t4 := Try.underlying4
  a4 := Try.isAgg4
  z4 := Try.sizeOf4
  v4 := Try.zeroValue4
  t22 := Try.underlying25
  a22 := Try.isAgg25
  z22 := Try.sizeOf25
  v22 := Try.zeroValue25
  a24 := Try.isAgg3
  z24 := Try.sizeOf3
  t25 := Try.underlying60
  a25 := Try.isAgg60
  z25 := Try.sizeOf60
  v25 := Try.zeroValue60 }
open Go.RowKit Go.Lib Go.Sort in
theorem Try.insertionSortCmpFunc_one {α : Type} [Inhabited α] (enc : α → Value) (hO : OneCell enc) (cf : α → α → Int) (g : Nat) (cb : Array Value) (blk off cap a b : Nat) (d : Array α) (w : World) (eg : ∀ args w, (callFunc g args).run Try.prog w = .ok (.enter g args) w) (hcmp : CmpReads Try.prog g cb enc cf blk off d.size w) (hH : Holds enc w blk off d) (hab : a ≤ b) (hb : b ≤ d.size) (hsz : d.size < 4611686018427387904) :
    Calls Try.prog 111 #[.slice (some ⟨blk, off, none⟩) d.size cap, .int .i64 a, .int .i64 b, .func (.func g) #[] cb] w fun e w' =>
      e = .returned (.tuple #[]) ∧ ∃ n, w' = (putRow enc w blk off (Sort.insertionSort (ltOf cf) d a b)).drewN n := Any.insertionSortCmpFunc_one Try.laysSlF20_f111 enc hO cf g cb blk off cap a b d w eg hcmp hH hab hb hsz
def Try.laysSlF46_f137_ren : Go.Shelf.Ren := ⟨fun | 46 => 137 | n => n, fun | 24 => 3 | 22 => 25 | 3 => 3 | 25 => 60 | 4 => 4 | 0 => 0 | n => n, fun | n => n⟩
theorem Try.laysSlF46_f137 : Go.Proofs.SlLaysF.n46 Try.prog Try.laysSlF46_f137_ren := {
  mixed := by kernel_rfl
  f46 := ⟨Try.f137.name, by decide, Try.func137.trans (congrArg some (by kernel_rfl))⟩
  t0 := Try.underlying0
  a0 := Try.isAgg0
  z0 := Try.sizeOf0
  v0 := Try.zeroValue0
  t3 := Try.underlying3
  a3 := Try.isAgg3
  z3 := Try.sizeOf3
  v3 := Try.zeroValue3
  t4 := Try.underlying4
  a4 := Try.isAgg4
  z4 := Try.sizeOf4
  v4 := Try.zeroValue4
  t22 := Try.underlying25
  a22 := Try.isAgg25
  z22 := Try.sizeOf25
  v22 := Try.zeroValue25
  a24 := Try.isAgg3
  z24 := Try.sizeOf3
  t25 := Try.underlying60
  a25 := Try.isAgg60
  z25 := Try.sizeOf60
  v25 := Try.zeroValue60 }
open Go.RowKit Go.Lib Go.Sort in
theorem Try.siftDownCmpFunc {α : Type} [Inhabited α] (enc : α → Value) (cf : α → α → Int) (g : Nat) (cb : Array Value) (blk off cap lo hi first : Nat) (d0 d : Array α) (w0 w : World) (eg : ∀ args w, (callFunc g args).run Try.prog w = .ok (.enter g args) w) (hcmp : CmpLays1 Try.prog g cb enc cf blk off d0.size w0) (R : Row1 enc w0 blk off d0) (hs : d0.size = d.size) (S : SW enc w0 blk off d w) (hlo : lo ≤ hi) (hb : first + hi ≤ d.size) (hsz : d.size < 4611686018427387904) :
    Calls Try.prog 137 #[.slice (some ⟨blk, off, none⟩) d.size cap, .int .i64 lo, .int .i64 hi, .int .i64 first, .func (.func g) #[] cb] w fun e w' =>
      e = .returned (.tuple #[]) ∧ SW enc w0 blk off (siftDown (ltOf cf) hi first lo d) w' := Any.siftDownCmpFunc Try.laysSlF46_f137 enc cf g cb blk off cap lo hi first d0 d w0 w eg hcmp R hs S hlo hb hsz
def Try.laysSlF21_f112_ren : Go.Shelf.Ren := ⟨fun | 21 => 112 | 46 => 137 | n => n, fun | 24 => 3 | 22 => 25 | 3 => 3 | 25 => 60 | 4 => 4 | 0 => 0 | n => n, fun | n => n⟩
theorem Try.laysSlF21_f112 : Go.Proofs.SlLaysF.n21 Try.prog Try.laysSlF21_f112_ren := {
  mixed := by kernel_rfl
  f21 := ⟨Try.f112.name, by decide, Try.func112.trans (congrArg some (by kernel_rfl))⟩
  f46 := ⟨Try.f137.name, by decide, Try.func137.trans (congrArg some (by kernel_rfl))⟩
  t0 := Try.underlying0
  a0 := Try.isAgg0
  z0 := Try.sizeOf0
  v0 := Try.zeroValue0
  t3 := Try.underlying3
  a3 := Try.isAgg3
  z3 := Try.sizeOf3
  v3 := Try.zeroValue3
  t4 := Try.underlying4
  a4 := Try.isAgg4
  z4 := Try.sizeOf4
  v4 := Try.zeroValue4
  t22 := Try.underlying25
  a22 := Try.isAgg25
  z22 := Try.sizeOf25
  v22 := Try.zeroValue25
  a24 := Try.isAgg3
  z24 := Try.sizeOf3
  t25 := Try.underlying60
  a25 := Try.isAgg60
  z25 := Try.sizeOf60
  v25 := Try.zeroValue60 }
open Go.RowKit Go.Lib Go.Sort in
theorem Try.heapSortCmpFunc {α : Type} [Inhabited α] (enc : α → Value) (cf : α → α → Int) (g : Nat) (cb : Array Value) (blk off cap a b : Nat) (d0 d : Array α) (w0 w : World) (eg : ∀ args w, (callFunc g args).run Try.prog w = .ok (.enter g args) w) (hcmp : CmpLays1 Try.prog g cb enc cf blk off d0.size w0) (R : Row1 enc w0 blk off d0) (hs : d0.size = d.size) (S : SW enc w0 blk off d w) (hab : a ≤ b) (hb : b ≤ d.size) (hsz : d.size < 4611686018427387904) :
    Calls Try.prog 112 #[.slice (some ⟨blk, off, none⟩) d.size cap, .int .i64 a, .int .i64 b, .func (.func g) #[] cb] w fun e w' =>
      e = .returned (.tuple #[]) ∧ SW enc w0 blk off (heapSort (ltOf cf) d a b) w' := Any.heapSortCmpFunc Try.laysSlF21_f112 enc cf g cb blk off cap a b d0 d w0 w eg hcmp R hs S hab hb hsz
open Go.RowKit Go.Lib Go.Sort in
theorem Try.insertionSortCmpFunc_s {α : Type} [Inhabited α] (enc : α → Value) (cf : α → α → Int) (g : Nat) (cb : Array Value) (blk off cap a b : Nat) (d0 d : Array α) (w0 w : World) (eg : ∀ args w, (callFunc g args).run Try.prog w = .ok (.enter g args) w) (hcmp : CmpLays1 Try.prog g cb enc cf blk off d0.size w0) (R : Row1 enc w0 blk off d0) (hs : d0.size = d.size) (S : SW enc w0 blk off d w) (hab : a ≤ b) (hb : b ≤ d.size) (hsz : d.size < 4611686018427387904) :
    Calls Try.prog 111 #[.slice (some ⟨blk, off, none⟩) d.size cap, .int .i64 a, .int .i64 b, .func (.func g) #[] cb] w fun e w' => e = .returned (.tuple #[]) ∧ SW enc w0 blk off (Sort.insertionSort (ltOf cf) d a b) w' := Any.insertionSortCmpFunc_s Try.laysSlF20_f111 enc cf g cb blk off cap a b d0 d w0 w eg hcmp R hs S hab hb hsz
def Try.laysSlF57_f147_ren : Go.Shelf.Ren := ⟨fun | 57 => 147 | n => n, fun | 24 => 3 | 22 => 25 | 3 => 3 | 70 => 131 | 25 => 60 | 0 => 0 | 4 => 4 | n => n, fun | n => n⟩
theorem Try.laysSlF57_f147 : Go.Proofs.SlLaysF.n57 Try.prog Try.laysSlF57_f147_ren := {
  mixed := by kernel_rfl
  f57 := ⟨Try.f147.name, by decide, Try.func147.trans (congrArg some (by kernel_rfl))⟩
  t0 := Try.underlying0
  a0 := Try.isAgg0
  z0 := Try.sizeOf0
  v0 := Try.zeroValue0
  t3 := Try.underlying3
  a3 := Try.isAgg3
  z3 := Try.sizeOf3
  v3 := Try.zeroValue3
  t4 := Try.underlying4
  a4 := Try.isAgg4
  z4 := Try.sizeOf4
  v4 := Try.zeroValue4
  t22 := Try.underlying25
  a22 := Try.isAgg25
  z22 := Try.sizeOf25
  v22 := Try.zeroValue25
  a24 := Try.isAgg3
  z24 := Try.sizeOf3
  t25 := Try.underlying60
  a25 := Try.isAgg60
  z25 := Try.sizeOf60
  v25 := Try.zeroValue60
  t70 := Try.underlying131
  a70 := Try.isAgg131
  z70 := Try.sizeOf131
  v70 := Try.zeroValue131 }
open Go.RowKit Go.Lib Go.Sort in
theorem Try.order2CmpFunc {α : Type} [Inhabited α] (enc : α → Value) (cf : α → α → Int) (g : Nat) (cb : Array Value) (blk off cap a b c s : Nat) (d0 d : Array α) (w0 W : World) (eg : ∀ args w, (callFunc g args).run Try.prog w = .ok (.enter g args) w) (hcmp : CmpLays1 Try.prog g cb enc cf blk off d0.size w0) (R : Row1 enc w0 blk off d0) (hs : d0.size = d.size) (C : Cnt1 enc w0 blk off d c s W) (ha : a < d.size) (hb : b < d.size) (hsz : d.size < 4611686018427387904) (hss : s < 4611686018427387904) :
    Calls Try.prog 147 #[.slice (some ⟨blk, off, none⟩) d.size cap, .int .i64 a, .int .i64 b, .pointer (some ⟨c, 0, none⟩), .func (.func g) #[] cb] W fun e w' =>
      e = .returned (.tuple #[.int .i64 (order2 (ltOf cf) d a b s).1, .int .i64 (order2 (ltOf cf) d a b s).2.1]) ∧ Cnt1 enc w0 blk off d c (order2 (ltOf cf) d a b s).2.2 w' := Any.order2CmpFunc Try.laysSlF57_f147 enc cf g cb blk off cap a b c s d0 d w0 W eg hcmp R hs C ha hb hsz hss
def Try.laysSlF50_f139_ren : Go.Shelf.Ren := ⟨fun | 50 => 139 | 57 => 147 | n => n, fun | 24 => 3 | 22 => 25 | 3 => 3 | 70 => 131 | 25 => 60 | 77 => 142 | 0 => 0 | 4 => 4 | n => n, fun | n => n⟩
theorem Try.laysSlF50_f139 : Go.Proofs.SlLaysF.n50 Try.prog Try.laysSlF50_f139_ren := {
  mixed := by kernel_rfl
  f50 := ⟨Try.f139.name, by decide, Try.func139.trans (congrArg some (by kernel_rfl))⟩
  f57 := ⟨Try.f147.name, by decide, Try.func147.trans (congrArg some (by kernel_rfl))⟩
  t0 := Try.underlying0
  a0 := Try.isAgg0
  z0 := Try.sizeOf0
  v0 := Try.zeroValue0
  t3 := Try.underlying3
  a3 := Try.isAgg3
  z3 := Try.sizeOf3
  v3 := Try.zeroValue3
  t4 := Try.underlying4
  a4 := Try.isAgg4
  z4 := Try.sizeOf4
  v4 := Try.zeroValue4
  t22 := Try.underlying25
  a22 := Try.isAgg25
  z22 := Try.sizeOf25
  v22 := Try.zeroValue25
  a24 := Try.isAgg3
  z24 := Try.sizeOf3
  t25 := Try.underlying60
  a25 := Try.isAgg60
  z25 := Try.sizeOf60
  v25 := Try.zeroValue60
  t70 := Try.underlying131
  a70 := Try.isAgg131
  z70 := Try.sizeOf131
  v70 := Try.zeroValue131
  t77 := Try.underlying142
  a77 := Try.isAgg142
  z77 := Try.sizeOf142
  v77 := Try.zeroValue142 }
open Go.RowKit Go.Lib Go.Sort in
theorem Try.medianCmpFunc {α : Type} [Inhabited α] (enc : α → Value) (cf : α → α → Int) (g : Nat) (cb : Array Value) (blk off cap a b c' c s : Nat) (d0 d : Array α) (w0 W : World) (eg : ∀ args w, (callFunc g args).run Try.prog w = .ok (.enter g args) w) (hcmp : CmpLays1 Try.prog g cb enc cf blk off d0.size w0) (R : Row1 enc w0 blk off d0) (hs : d0.size = d.size) (C : Cnt1 enc w0 blk off d c s W) (ha : a < d.size) (hb : b < d.size) (hc : c' < d.size) (hsz : d.size < 4611686018427387904) (hss : s + 3 < 4611686018427387904) :
    Calls Try.prog 139 #[.slice (some ⟨blk, off, none⟩) d.size cap, .int .i64 a, .int .i64 b, .int .i64 c', .pointer (some ⟨c, 0, none⟩), .func (.func g) #[] cb] W fun e w' =>
      e = .returned (.int .i64 (median (ltOf cf) d a b c' s).1) ∧ Cnt1 enc w0 blk off d c (median (ltOf cf) d a b c' s).2 w' := Any.medianCmpFunc Try.laysSlF50_f139 enc cf g cb blk off cap a b c' c s d0 d w0 W eg hcmp R hs C ha hb hc hsz hss
def Try.laysSlF49_f138_ren : Go.Shelf.Ren := ⟨fun | 49 => 138 | 50 => 139 | 57 => 147 | n => n, fun | 24 => 3 | 22 => 25 | 3 => 3 | 70 => 131 | 25 => 60 | 77 => 142 | 0 => 0 | 4 => 4 | n => n, fun | n => n⟩
theorem Try.laysSlF49_f138 : Go.Proofs.SlLaysF.n49 Try.prog Try.laysSlF49_f138_ren := {
  mixed := by kernel_rfl
  f49 := ⟨Try.f138.name, by decide, Try.func138.trans (congrArg some (by kernel_rfl))⟩
  f50 := ⟨Try.f139.name, by decide, Try.func139.trans (congrArg some (by kernel_rfl))⟩
  f57 := ⟨Try.f147.name, by decide, Try.func147.trans (congrArg some (by kernel_rfl))⟩
  t0 := Try.underlying0
  a0 := Try.isAgg0
  z0 := Try.sizeOf0
  v0 := Try.zeroValue0
  t3 := Try.underlying3
  a3 := Try.isAgg3
  z3 := Try.sizeOf3
  v3 := Try.zeroValue3
  t4 := Try.underlying4
  a4 := Try.isAgg4
  z4 := Try.sizeOf4
  v4 := Try.zeroValue4
  t22 := Try.underlying25
  a22 := Try.isAgg25
  z22 := Try.sizeOf25
  v22 := Try.zeroValue25
  a24 := Try.isAgg3
  z24 := Try.sizeOf3
  t25 := Try.underlying60
  a25 := Try.isAgg60
  z25 := Try.sizeOf60
  v25 := Try.zeroValue60
  t70 := Try.underlying131
  a70 := Try.isAgg131
  z70 := Try.sizeOf131
  v70 := Try.zeroValue131
  t77 := Try.underlying142
  a77 := Try.isAgg142
  z77 := Try.sizeOf142
  v77 := Try.zeroValue142 }
open Go.RowKit Go.Lib Go.Sort in
theorem Try.medianAdjacentCmpFunc {α : Type} [Inhabited α] (enc : α → Value) (cf : α → α → Int) (g : Nat) (cb : Array Value) (blk off cap a c s : Nat) (d0 d : Array α) (w0 W : World) (eg : ∀ args w, (callFunc g args).run Try.prog w = .ok (.enter g args) w) (hcmp : CmpLays1 Try.prog g cb enc cf blk off d0.size w0) (R : Row1 enc w0 blk off d0) (hs : d0.size = d.size) (C : Cnt1 enc w0 blk off d c s W) (ha1 : 1 ≤ a) (ha2 : a + 1 < d.size) (hsz : d.size < 4611686018427387904) (hss : s + 3 < 4611686018427387904) :
    Calls Try.prog 138 #[.slice (some ⟨blk, off, none⟩) d.size cap, .int .i64 a, .pointer (some ⟨c, 0, none⟩), .func (.func g) #[] cb] W fun e w' =>
      e = .returned (.int .i64 (medianAdjacent (ltOf cf) d a s).1) ∧ Cnt1 enc w0 blk off d c (medianAdjacent (ltOf cf) d a s).2 w' := Any.medianAdjacentCmpFunc Try.laysSlF49_f138 enc cf g cb blk off cap a c s d0 d w0 W eg hcmp R hs C ha1 ha2 hsz hss
def Try.laysSlF23_f114_ren : Go.Shelf.Ren := ⟨fun | 23 => 114 | 49 => 138 | 50 => 139 | 57 => 147 | n => n, fun | 24 => 3 | 22 => 25 | 3 => 3 | 25 => 60 | 45 => 94 | 0 => 0 | 4 => 4 | 70 => 131 | 77 => 142 | n => n, fun | n => n⟩
theorem Try.laysSlF23_f114 : Go.Proofs.SlLaysF.n23 Try.prog Try.laysSlF23_f114_ren := {
  mixed := by kernel_rfl
  f23 := ⟨Try.f114.name, by decide, Try.func114.trans (congrArg some (by kernel_rfl))⟩
  f49 := ⟨Try.f138.name, by decide, Try.func138.trans (congrArg some (by kernel_rfl))⟩
  f50 := ⟨Try.f139.name, by decide, Try.func139.trans (congrArg some (by kernel_rfl))⟩
  f57 := ⟨Try.f147.name, by decide, Try.func147.trans (congrArg some (by kernel_rfl))⟩
  t0 := Try.underlying0
  a0 := Try.isAgg0
  z0 := Try.sizeOf0
  v0 := Try.zeroValue0
  t3 := Try.underlying3
  a3 := Try.isAgg3
  z3 := Try.sizeOf3
  v3 := Try.zeroValue3
  t4 := Try.underlying4
  a4 := Try.isAgg4
  z4 := Try.sizeOf4
  v4 := Try.zeroValue4
  t22 := Try.underlying25
  a22 := Try.isAgg25
  z22 := Try.sizeOf25
  v22 := Try.zeroValue25
  a24 := Try.isAgg3
  z24 := Try.sizeOf3
  t25 := Try.underlying60
  a25 := Try.isAgg60
  z25 := Try.sizeOf60
  v25 := Try.zeroValue60
  t45 := Try.underlying94
  a45 := Try.isAgg94
  z45 := Try.sizeOf94
  v45 := Try.zeroValue94
  t70 := Try.underlying131
  a70 := Try.isAgg131
  z70 := Try.sizeOf131
  v70 := Try.zeroValue131
  t77 := Try.underlying142
  a77 := Try.isAgg142
  z77 := Try.sizeOf142
  v77 := Try.zeroValue142 }
open Go.RowKit Go.Lib Go.Sort in
theorem Try.choosePivotCmpFunc {α : Type} [Inhabited α] (enc : α → Value) (cf : α → α → Int) (g : Nat) (cb : Array Value) (blk off cap a b : Nat) (d0 d : Array α) (w0 W : World) (eg : ∀ args w, (callFunc g args).run Try.prog w = .ok (.enter g args) w) (hcmp : CmpLays1 Try.prog g cb enc cf blk off d0.size w0) (R : Row1 enc w0 blk off d0) (hs : d0.size = d.size) (S : SW enc w0 blk off d W) (hab : a < b) (hb : b ≤ d.size) (hsz : d.size < 4611686018427387904) :
    Calls Try.prog 114 #[.slice (some ⟨blk, off, none⟩) d.size cap, .int .i64 a, .int .i64 b, .func (.func g) #[] cb] W fun e w' =>
      e = .returned (.tuple #[.int .i64 (choosePivot (ltOf cf) d a b).1, .int .i64 (hintCode (choosePivot (ltOf cf) d a b).2)]) ∧ SW enc w0 blk off d w' := Any.choosePivotCmpFunc Try.laysSlF23_f114 enc cf g cb blk off cap a b d0 d w0 W eg hcmp R hs S hab hb hsz
def Try.laysSlF24_f115_ren : Go.Shelf.Ren := ⟨fun | 24 => 115 | n => n, fun | 24 => 3 | 22 => 25 | 3 => 3 | 25 => 60 | 4 => 4 | 0 => 0 | n => n, fun | n => n⟩
theorem Try.laysSlF24_f115 : Go.Proofs.SlLaysF.n24 Try.prog Try.laysSlF24_f115_ren := {
  mixed := by kernel_rfl
  f24 := ⟨Try.f115.name, by decide, Try.func115.trans (congrArg some (by kernel_rfl))⟩
  t0 := Try.underlying0
  a0 := Try.isAgg0
  z0 := Try.sizeOf0
  v0 := Try.zeroValue0
  t3 := Try.underlying3
  a3 := Try.isAgg3
  z3 := Try.sizeOf3
  v3 := Try.zeroValue3
  t4 := Try.underlying4
  a4 := Try.isAgg4
  z4 := Try.sizeOf4
  v4 := Try.zeroValue4
  t22 := Try.underlying25
  a22 := Try.isAgg25
  z22 := Try.sizeOf25
  v22 := Try.zeroValue25
  a24 := Try.isAgg3
  z24 := Try.sizeOf3
  t25 := Try.underlying60
  a25 := Try.isAgg60
  z25 := Try.sizeOf60
  v25 := Try.zeroValue60 }
open Go.RowKit Go.Lib Go.Sort in
theorem Try.reverseRangeCmpFunc {α : Type} [Inhabited α] (enc : α → Value) (g : Nat) (cb : Array Value) (blk off cap a b : Nat) (d0 d : Array α) (w0 w : World) (R : Row1 enc w0 blk off d0) (hs : d0.size = d.size) (S : SW enc w0 blk off d w) (hab : a ≤ b) (hb : b ≤ d.size) (hsz : d.size < 4611686018427387904) :
    Calls Try.prog 115 #[.slice (some ⟨blk, off, none⟩) d.size cap, .int .i64 a, .int .i64 b, .func (.func g) #[] cb] w fun e w' => e = .returned (.tuple #[]) ∧ SW enc w0 blk off (reverseRange d a b) w' := Any.reverseRangeCmpFunc Try.laysSlF24_f115 enc g cb blk off cap a b d0 d w0 w R hs S hab hb hsz
def Try.laysSlF25_f116_ren : Go.Shelf.Ren := ⟨fun | 25 => 116 | n => n, fun | 24 => 3 | 22 => 25 | 3 => 3 | 25 => 60 | 4 => 4 | 0 => 0 | n => n, fun | n => n⟩
theorem Try.laysSlF25_f116 : Go.Proofs.SlLaysF.n25 Try.prog Try.laysSlF25_f116_ren := {
  mixed := by kernel_rfl
  f25 := ⟨Try.f116.name, by decide, Try.func116.trans (congrArg some (by kernel_rfl))⟩
  t0 := Try.underlying0
  a0 := Try.isAgg0
  z0 := Try.sizeOf0
  v0 := Try.zeroValue0
  t3 := Try.underlying3
  a3 := Try.isAgg3
  z3 := Try.sizeOf3
  v3 := Try.zeroValue3
  t4 := Try.underlying4
  a4 := Try.isAgg4
  z4 := Try.sizeOf4
  v4 := Try.zeroValue4
  t22 := Try.underlying25
  a22 := Try.isAgg25
  z22 := Try.sizeOf25
  v22 := Try.zeroValue25
  a24 := Try.isAgg3
  z24 := Try.sizeOf3
  t25 := Try.underlying60
  a25 := Try.isAgg60
  z25 := Try.sizeOf60
  v25 := Try.zeroValue60 }
open Go.RowKit Go.Lib Go.Sort in
theorem Try.partialInsertionSortCmpFunc {α : Type} [Inhabited α] (enc : α → Value) (cf : α → α → Int) (g : Nat) (cb : Array Value) (blk off cap a b : Nat) (d0 d : Array α) (w0 w : World) (eg : ∀ args w, (callFunc g args).run Try.prog w = .ok (.enter g args) w) (hcmp : CmpLays1 Try.prog g cb enc cf blk off d0.size w0) (R : Row1 enc w0 blk off d0) (hs : d0.size = d.size) (S : SW enc w0 blk off d w) (hab : a < b) (hb : b ≤ d.size) (hsz : d.size < 4611686018427387904) :
    Calls Try.prog 116 #[.slice (some ⟨blk, off, none⟩) d.size cap, .int .i64 a, .int .i64 b, .func (.func g) #[] cb] w fun e w' =>
      e = .returned (.bool (Sort.partialInsertionSort (ltOf cf) d a b).2) ∧ SW enc w0 blk off (Sort.partialInsertionSort (ltOf cf) d a b).1 w' := Any.partialInsertionSortCmpFunc Try.laysSlF25_f116 enc cf g cb blk off cap a b d0 d w0 w eg hcmp R hs S hab hb hsz
def Try.laysSlF26_f117_ren : Go.Shelf.Ren := ⟨fun | 26 => 117 | n => n, fun | 24 => 3 | 22 => 25 | 3 => 3 | 25 => 60 | 0 => 0 | 4 => 4 | n => n, fun | n => n⟩
theorem Try.laysSlF26_f117 : Go.Proofs.SlLaysF.n26 Try.prog Try.laysSlF26_f117_ren := {
  mixed := by kernel_rfl
  f26 := ⟨Try.f117.name, by decide, Try.func117.trans (congrArg some (by kernel_rfl))⟩
  t0 := Try.underlying0
  a0 := Try.isAgg0
  z0 := Try.sizeOf0
  v0 := Try.zeroValue0
  t3 := Try.underlying3
  a3 := Try.isAgg3
  z3 := Try.sizeOf3
  v3 := Try.zeroValue3
  t4 := Try.underlying4
  a4 := Try.isAgg4
  z4 := Try.sizeOf4
  v4 := Try.zeroValue4
  t22 := Try.underlying25
  a22 := Try.isAgg25
  z22 := Try.sizeOf25
  v22 := Try.zeroValue25
  a24 := Try.isAgg3
  z24 := Try.sizeOf3
  t25 := Try.underlying60
  a25 := Try.isAgg60
  z25 := Try.sizeOf60
  v25 := Try.zeroValue60 }
open Go.RowKit Go.Lib Go.Sort in
theorem Try.partitionEqualCmpFunc {α : Type} [Inhabited α] (enc : α → Value) (cf : α → α → Int) (g : Nat) (cb : Array Value) (blk off cap a b pivot : Nat) (d0 d : Array α) (w0 w : World) (eg : ∀ args w, (callFunc g args).run Try.prog w = .ok (.enter g args) w) (hcmp : CmpLays1 Try.prog g cb enc cf blk off d0.size w0) (R : Row1 enc w0 blk off d0) (hs : d0.size = d.size) (S : SW enc w0 blk off d w) (hap : a ≤ pivot) (hpb : pivot < b) (hb : b ≤ d.size) (hsz : d.size < 4611686018427387904) :
    Calls Try.prog 117 #[.slice (some ⟨blk, off, none⟩) d.size cap, .int .i64 a, .int .i64 b, .int .i64 pivot, .func (.func g) #[] cb] w fun e w' =>
      e = .returned (.int .i64 (Sort.partitionEqual (ltOf cf) d a b pivot).1) ∧ SW enc w0 blk off (Sort.partitionEqual (ltOf cf) d a b pivot).2 w' := Any.partitionEqualCmpFunc Try.laysSlF26_f117 enc cf g cb blk off cap a b pivot d0 d w0 w eg hcmp R hs S hap hpb hb hsz
def Try.laysSlF27_f118_ren : Go.Shelf.Ren := ⟨fun | 27 => 118 | n => n, fun | 24 => 3 | 22 => 25 | 3 => 3 | 25 => 60 | 4 => 4 | 0 => 0 | n => n, fun | n => n⟩
theorem Try.laysSlF27_f118 : Go.Proofs.SlLaysF.n27 Try.prog Try.laysSlF27_f118_ren := {
  mixed := by kernel_rfl
  f27 := ⟨Try.f118.name, by decide, Try.func118.trans (congrArg some (by kernel_rfl))⟩
  t0 := Try.underlying0
  a0 := Try.isAgg0
  z0 := Try.sizeOf0
  v0 := Try.zeroValue0
  t3 := Try.underlying3
  a3 := Try.isAgg3
  z3 := Try.sizeOf3
  v3 := Try.zeroValue3
  t4 := Try.underlying4
  a4 := Try.isAgg4
  z4 := Try.sizeOf4
  v4 := Try.zeroValue4
  t22 := Try.underlying25
  a22 := Try.isAgg25
  z22 := Try.sizeOf25
  v22 := Try.zeroValue25
  a24 := Try.isAgg3
  z24 := Try.sizeOf3
  t25 := Try.underlying60
  a25 := Try.isAgg60
  z25 := Try.sizeOf60
  v25 := Try.zeroValue60 }
open Go.RowKit Go.Lib Go.Sort in
theorem Try.partitionCmpFunc {α : Type} [Inhabited α] (enc : α → Value) (cf : α → α → Int) (g : Nat) (cb : Array Value) (blk off cap a b pivot : Nat) (d0 d : Array α) (w0 w : World) (eg : ∀ args w, (callFunc g args).run Try.prog w = .ok (.enter g args) w) (hcmp : CmpLays1 Try.prog g cb enc cf blk off d0.size w0) (R : Row1 enc w0 blk off d0) (hs : d0.size = d.size) (S : SW enc w0 blk off d w) (hap : a ≤ pivot) (hpb : pivot < b) (hb : b ≤ d.size) (hsz : d.size < 4611686018427387904) :
    Calls Try.prog 118 #[.slice (some ⟨blk, off, none⟩) d.size cap, .int .i64 a, .int .i64 b, .int .i64 pivot, .func (.func g) #[] cb] w fun e w' =>
      e = .returned (.tuple #[.int .i64 (Sort.partition (ltOf cf) d a b pivot).1, .bool (Sort.partition (ltOf cf) d a b pivot).2.1]) ∧ SW enc w0 blk off (Sort.partition (ltOf cf) d a b pivot).2.2 w' := Any.partitionCmpFunc Try.laysSlF27_f118 enc cf g cb blk off cap a b pivot d0 d w0 w eg hcmp R hs S hap hpb hb hsz
def Try.laysSlF14_f68_ren : Go.Shelf.Ren := ⟨fun | 14 => 68 | 20 => 111 | 21 => 112 | 22 => 113 | 23 => 114 | 24 => 115 | 25 => 116 | 26 => 117 | 27 => 118 | 46 => 137 | 47 => 121 | 48 => 122 | 49 => 138 | 50 => 139 | 15 => 58 | 57 => 147 | 28 => 79 | 29 => 80 | n => n, fun | 24 => 3 | 22 => 25 | 3 => 3 | 25 => 60 | 4 => 4 | 0 => 0 | 46 => 95 | 45 => 94 | 50 => 99 | 66 => 127 | 39 => 72 | 55 => 104 | 70 => 131 | 76 => 141 | 77 => 142 | 53 => 102 | 5 => 5 | 9 => 9 | n => n, fun | n => n⟩
theorem Try.laysSlF14_f68 : Go.Proofs.SlLaysF.n14 Try.prog Try.laysSlF14_f68_ren := {
  mixed := by kernel_rfl
  f14 := ⟨Try.f68.name, by decide, Try.func68.trans (congrArg some (by kernel_rfl))⟩
  f15 := Try.func58.trans (congrArg some (by kernel_rfl))
  f20 := ⟨Try.f111.name, by decide, Try.func111.trans (congrArg some (by kernel_rfl))⟩
  f21 := ⟨Try.f112.name, by decide, Try.func112.trans (congrArg some (by kernel_rfl))⟩
  f22 := ⟨Try.f113.name, by decide, Try.func113.trans (congrArg some (by kernel_rfl))⟩
  f23 := ⟨Try.f114.name, by decide, Try.func114.trans (congrArg some (by kernel_rfl))⟩
  f24 := ⟨Try.f115.name, by decide, Try.func115.trans (congrArg some (by kernel_rfl))⟩
  f25 := ⟨Try.f116.name, by decide, Try.func116.trans (congrArg some (by kernel_rfl))⟩
  f26 := ⟨Try.f117.name, by decide, Try.func117.trans (congrArg some (by kernel_rfl))⟩
  f27 := ⟨Try.f118.name, by decide, Try.func118.trans (congrArg some (by kernel_rfl))⟩
  f28 := Try.func79.trans (congrArg some (by kernel_rfl))
  f29 := Try.func80.trans (congrArg some (by kernel_rfl))
  f46 := ⟨Try.f137.name, by decide, Try.func137.trans (congrArg some (by kernel_rfl))⟩
  f47 := Try.func121.trans (congrArg some (by kernel_rfl))
  f48 := Try.func122.trans (congrArg some (by kernel_rfl))
  f49 := ⟨Try.f138.name, by decide, Try.func138.trans (congrArg some (by kernel_rfl))⟩
  f50 := ⟨Try.f139.name, by decide, Try.func139.trans (congrArg some (by kernel_rfl))⟩
  f57 := ⟨Try.f147.name, by decide, Try.func147.trans (congrArg some (by kernel_rfl))⟩
  t0 := Try.underlying0
  a0 := Try.isAgg0
  z0 := Try.sizeOf0
  v0 := Try.zeroValue0
  t3 := Try.underlying3
  a3 := Try.isAgg3
  z3 := Try.sizeOf3
  v3 := Try.zeroValue3
  t4 := Try.underlying4
  a4 := Try.isAgg4
  z4 := Try.sizeOf4
  v4 := Try.zeroValue4
  t5 := Try.underlying5
  a5 := Try.isAgg5
  z5 := Try.sizeOf5
  v5 := Try.zeroValue5
  t9 := Try.underlying9
  a9 := Try.isAgg9
  z9 := Try.sizeOf9
  v9 := Try.zeroValue9
  t22 := Try.underlying25
  a22 := Try.isAgg25
  z22 := Try.sizeOf25
  v22 := Try.zeroValue25
  a24 := Try.isAgg3
  z24 := Try.sizeOf3
  t25 := Try.underlying60
  a25 := Try.isAgg60
  z25 := Try.sizeOf60
  v25 := Try.zeroValue60
  t39 := Try.underlying72
  a39 := Try.isAgg72
  z39 := Try.sizeOf72
  v39 := Try.zeroValue72
  t45 := Try.underlying94
  a45 := Try.isAgg94
  z45 := Try.sizeOf94
  v45 := Try.zeroValue94
  t46 := Try.underlying95
  a46 := Try.isAgg95
  z46 := Try.sizeOf95
  v46 := Try.zeroValue95
  t50 := Try.underlying99
  a50 := Try.isAgg99
  z50 := Try.sizeOf99
  v50 := Try.zeroValue99
  t53 := Try.underlying102
  a53 := Try.isAgg102
  z53 := Try.sizeOf102
  v53 := Try.zeroValue102
  t55 := Try.underlying104
  a55 := Try.isAgg104
  z55 := Try.sizeOf104
  v55 := Try.zeroValue104
  t66 := Try.underlying127
  a66 := Try.isAgg127
  z66 := Try.sizeOf127
  v66 := Try.zeroValue127
  t70 := Try.underlying131
  a70 := Try.isAgg131
  z70 := Try.sizeOf131
  v70 := Try.zeroValue131
  t76 := Try.underlying141
  a76 := Try.isAgg141
  z76 := Try.sizeOf141
  v76 := Try.zeroValue141
  t77 := Try.underlying142
  a77 := Try.isAgg142
  z77 := Try.sizeOf142
  v77 := Try.zeroValue142 }
open Go.RowKit Go.Lib Go.Sort in
theorem Try.pdqsortCmpFunc_all {α : Type} [Inhabited α] (enc : α → Value) (cf : α → α → Int) (g : Nat) (cb : Array Value) (hO : SWO (ltOf cf)) (blk off cap : Nat) (d0 : Array α) (w0 : World) (eg : ∀ args w, (callFunc g args).run Try.prog w = .ok (.enter g args) w) (hcmp : CmpLays1 Try.prog g cb enc cf blk off d0.size w0) (R : Row1 enc w0 blk off d0) :
    ∀ (N a b limit : Nat) (d : Array α) (w : World), b - a < N → d0.size = d.size → SW enc w0 blk off d w → a ≤ b → b ≤ d.size → d.size < 4611686018427387904 → limit < 4611686018427387904 → Below (ltOf cf) a b d →
    Calls Try.prog 68 #[.slice (some ⟨blk, off, none⟩) d.size cap, .int .i64 a, .int .i64 b, .int .i64 limit, .func (.func g) #[] cb] w fun e w' => e = .returned (.tuple #[]) ∧ SW enc w0 blk off (pdq (ltOf cf) d a b limit true true) w' := Any.pdqsortCmpFunc_all Try.laysSlF14_f68 enc cf g cb hO blk off cap d0 w0 eg hcmp R
def Try.laysSlF6_f47_ren : Go.Shelf.Ren := ⟨fun | 6 => 47 | 15 => 58 | 14 => 68 | 28 => 79 | 29 => 80 | 20 => 111 | 21 => 112 | 22 => 113 | 23 => 114 | 24 => 115 | 25 => 116 | 26 => 117 | 27 => 118 | 46 => 137 | 47 => 121 | 48 => 122 | 49 => 138 | 50 => 139 | 57 => 147 | n => n, fun | 22 => 25 | 24 => 3 | 25 => 60 | 3 => 3 | 39 => 72 | 0 => 0 | 53 => 102 | 55 => 104 | 4 => 4 | 46 => 95 | 45 => 94 | 50 => 99 | 5 => 5 | 9 => 9 | 66 => 127 | 70 => 131 | 76 => 141 | 77 => 142 | n => n, fun | n => n⟩
theorem Try.laysSlF6_f47 : Go.Proofs.SlLaysF.n6 Try.prog Try.laysSlF6_f47_ren := {
  mixed := by kernel_rfl
  f6 := ⟨Try.f47.name, by decide, Try.func47.trans (congrArg some (by kernel_rfl))⟩
  f14 := ⟨Try.f68.name, by decide, Try.func68.trans (congrArg some (by kernel_rfl))⟩
  f15 := Try.func58.trans (congrArg some (by kernel_rfl))
  f20 := ⟨Try.f111.name, by decide, Try.func111.trans (congrArg some (by kernel_rfl))⟩
  f21 := ⟨Try.f112.name, by decide, Try.func112.trans (congrArg some (by kernel_rfl))⟩
  f22 := ⟨Try.f113.name, by decide, Try.func113.trans (congrArg some (by kernel_rfl))⟩
  f23 := ⟨Try.f114.name, by decide, Try.func114.trans (congrArg some (by kernel_rfl))⟩
  f24 := ⟨Try.f115.name, by decide, Try.func115.trans (congrArg some (by kernel_rfl))⟩
  f25 := ⟨Try.f116.name, by decide, Try.func116.trans (congrArg some (by kernel_rfl))⟩
  f26 := ⟨Try.f117.name, by decide, Try.func117.trans (congrArg some (by kernel_rfl))⟩
  f27 := ⟨Try.f118.name, by decide, Try.func118.trans (congrArg some (by kernel_rfl))⟩
  f28 := Try.func79.trans (congrArg some (by kernel_rfl))
  f29 := Try.func80.trans (congrArg some (by kernel_rfl))
  f46 := ⟨Try.f137.name, by decide, Try.func137.trans (congrArg some (by kernel_rfl))⟩
  f47 := Try.func121.trans (congrArg some (by kernel_rfl))
  f48 := Try.func122.trans (congrArg some (by kernel_rfl))
  f49 := ⟨Try.f138.name, by decide, Try.func138.trans (congrArg some (by kernel_rfl))⟩
  f50 := ⟨Try.f139.name, by decide, Try.func139.trans (congrArg some (by kernel_rfl))⟩
  f57 := ⟨Try.f147.name, by decide, Try.func147.trans (congrArg some (by kernel_rfl))⟩
  t0 := Try.underlying0
  a0 := Try.isAgg0
  z0 := Try.sizeOf0
  v0 := Try.zeroValue0
  t3 := Try.underlying3
  a3 := Try.isAgg3
  z3 := Try.sizeOf3
  v3 := Try.zeroValue3
  t4 := Try.underlying4
  a4 := Try.isAgg4
  z4 := Try.sizeOf4
  v4 := Try.zeroValue4
  t5 := Try.underlying5
  a5 := Try.isAgg5
  z5 := Try.sizeOf5
  v5 := Try.zeroValue5
  t9 := Try.underlying9
  a9 := Try.isAgg9
  z9 := Try.sizeOf9
  v9 := Try.zeroValue9
  t22 := Try.underlying25
  a22 := Try.isAgg25
  z22 := Try.sizeOf25
  v22 := Try.zeroValue25
  a24 := Try.isAgg3
  z24 := Try.sizeOf3
  t25 := Try.underlying60
  a25 := Try.isAgg60
  z25 := Try.sizeOf60
  v25 := Try.zeroValue60
  t39 := Try.underlying72
  a39 := Try.isAgg72
  z39 := Try.sizeOf72
  v39 := Try.zeroValue72
  t45 := Try.underlying94
  a45 := Try.isAgg94
  z45 := Try.sizeOf94
  v45 := Try.zeroValue94
  t46 := Try.underlying95
  a46 := Try.isAgg95
  z46 := Try.sizeOf95
  v46 := Try.zeroValue95
  t50 := Try.underlying99
  a50 := Try.isAgg99
  z50 := Try.sizeOf99
  v50 := Try.zeroValue99
  t53 := Try.underlying102
  a53 := Try.isAgg102
  z53 := Try.sizeOf102
  v53 := Try.zeroValue102
  t55 := Try.underlying104
  a55 := Try.isAgg104
  z55 := Try.sizeOf104
  v55 := Try.zeroValue104
  t66 := Try.underlying127
  a66 := Try.isAgg127
  z66 := Try.sizeOf127
  v66 := Try.zeroValue127
  t70 := Try.underlying131
  a70 := Try.isAgg131
  z70 := Try.sizeOf131
  v70 := Try.zeroValue131
  t76 := Try.underlying141
  a76 := Try.isAgg141
  z76 := Try.sizeOf141
  v76 := Try.zeroValue141
  t77 := Try.underlying142
  a77 := Try.isAgg142
  z77 := Try.sizeOf142
  v77 := Try.zeroValue142 }
open Go.RowKit Go.Lib Go.Sort in
theorem Try.slices_SortFunc_eq {α : Type} [Inhabited α] (enc : α → Value) (h1 : OneCell enc) (cf : α → α → Int) (hO : SWO (ltOf cf)) (g : Nat) (cb : Array Value) (blk off cap : Nat) (d : Array α) (w : World) (eg : ∀ args w, (callFunc g args).run Try.prog w = .ok (.enter g args) w) (hcmp : CmpLays1 Try.prog g cb enc cf blk off d.size w) (hH : Holds enc w blk off d) (hblk : blk < w.heap.size) (hsz : d.size < 4611686018427387904) :
    Calls Try.prog 47 #[.slice (some ⟨blk, off, none⟩) d.size cap, .func (.func g) #[] cb] w fun e w' =>
      e = .returned (.tuple #[]) ∧ ∃ n os, w' = sortWorld enc w blk off n (pdq (ltOf cf) d 0 d.size (Lib.bitLen d.size) true true) os := Any.slices_SortFunc_eq Try.laysSlF6_f47 enc h1 cf hO g cb blk off cap d w eg hcmp hH hblk hsz
open Go.RowKit Go.Lib Go.Sort in
theorem Try.slices_SortFunc {α : Type} [Inhabited α] (enc : α → Value) (h1 : OneCell enc) (cf : α → α → Int) (hO : SWO (ltOf cf)) (g : Nat) (cb : Array Value) (blk off cap : Nat) (d : Array α) (w : World) (eg : ∀ args w, (callFunc g args).run Try.prog w = .ok (.enter g args) w) (hcmp : CmpLays1 Try.prog g cb enc cf blk off d.size w) (hH : Holds enc w blk off d) (hblk : blk < w.heap.size) (hsz : d.size < 4611686018427387904) :
    Calls Try.prog 47 #[.slice (some ⟨blk, off, none⟩) d.size cap, .func (.func g) #[] cb] w fun e w' =>
      e = .returned (.tuple #[]) ∧ ∃ d' n os, PermIn 0 d.size d d' ∧ SortedIn (ltOf cf) 0 d.size d' ∧ w' = sortWorld enc w blk off n d' os := Any.slices_SortFunc Try.laysSlF6_f47 enc h1 cf hO g cb blk off cap d w eg hcmp hH hblk hsz
def Try.laysSlF020_f111_ren : Go.Shelf.Ren := ⟨fun | 20 => 111 | n => n, fun | 24 => 3 | 22 => 25 | 3 => 3 | 25 => 60 | 4 => 4 | 0 => 0 | n => n, fun | n => n⟩
theorem Try.laysSlF020_f111 : Go.Proofs.SlLaysF0.n20 Try.prog Try.laysSlF020_f111_ren := {
  mixed := by kernel_rfl
  f20 := ⟨Try.f111.name, by decide, Try.func111.trans (congrArg some (by kernel_rfl))⟩
  t0 := Try.underlying0
  a0 := Try.isAgg0
  z0 := Try.sizeOf0
  v0 := Try.zeroValue0
  t3 := Try.underlying3
  a3 := Try.isAgg3
  z3 := Try.sizeOf3
  v3 := Try.zeroValue3
  t4 := Try.underlying4
  a4 := Try.isAgg4
  z4 := Try.sizeOf4
  v4 := Try.zeroValue4
  t22 := Try.underlying25
  a22 := Try.isAgg25
  z22 := Try.sizeOf25
  v22 := Try.zeroValue25
  t25 := Try.underlying60
  a25 := Try.isAgg60
  z25 := Try.sizeOf60
  v25 := Try.zeroValue60 }
open Go.RowKit Go.Lib Go.Sort in
theorem Try.insertionSortCmpFunc_none {α : Type} [Inhabited α] (p : Option Addr) (cap : Nat) (fv : Value) (w : World) :
    Calls Try.prog 111 #[.slice p 0 cap, .int .i64 0, .int .i64 0, fv] w fun e w' => e = .returned (.tuple #[]) ∧ w' = w := AnyF.insertionSortCmpFunc_none Try.laysSlF020_f111 p cap fv w
def Try.laysSlF014_f68_ren : Go.Shelf.Ren := ⟨fun | 14 => 68 | 20 => 111 | 21 => 112 | 22 => 113 | 23 => 114 | 24 => 115 | 25 => 116 | 26 => 117 | 27 => 118 | 46 => 137 | 47 => 121 | 48 => 122 | 49 => 138 | 50 => 139 | 15 => 58 | 57 => 147 | 28 => 79 | 29 => 80 | n => n, fun | 24 => 3 | 22 => 25 | 3 => 3 | 25 => 60 | 4 => 4 | 0 => 0 | 46 => 95 | 45 => 94 | 50 => 99 | 66 => 127 | 39 => 72 | 55 => 104 | 70 => 131 | 76 => 141 | 77 => 142 | 53 => 102 | 5 => 5 | 9 => 9 | n => n, fun | n => n⟩
theorem Try.laysSlF014_f68 : Go.Proofs.SlLaysF0.n14 Try.prog Try.laysSlF014_f68_ren := {
  mixed := by kernel_rfl
  f14 := ⟨Try.f68.name, by decide, Try.func68.trans (congrArg some (by kernel_rfl))⟩
  f15 := Try.func58.trans (congrArg some (by kernel_rfl))
  f20 := ⟨Try.f111.name, by decide, Try.func111.trans (congrArg some (by kernel_rfl))⟩
  f21 := ⟨Try.f112.name, by decide, Try.func112.trans (congrArg some (by kernel_rfl))⟩
  f22 := ⟨Try.f113.name, by decide, Try.func113.trans (congrArg some (by kernel_rfl))⟩
  f23 := ⟨Try.f114.name, by decide, Try.func114.trans (congrArg some (by kernel_rfl))⟩
  f24 := ⟨Try.f115.name, by decide, Try.func115.trans (congrArg some (by kernel_rfl))⟩
  f25 := ⟨Try.f116.name, by decide, Try.func116.trans (congrArg some (by kernel_rfl))⟩
  f26 := ⟨Try.f117.name, by decide, Try.func117.trans (congrArg some (by kernel_rfl))⟩
  f27 := ⟨Try.f118.name, by decide, Try.func118.trans (congrArg some (by kernel_rfl))⟩
  f28 := Try.func79.trans (congrArg some (by kernel_rfl))
  f29 := Try.func80.trans (congrArg some (by kernel_rfl))
  f46 := ⟨Try.f137.name, by decide, Try.func137.trans (congrArg some (by kernel_rfl))⟩
  f47 := Try.func121.trans (congrArg some (by kernel_rfl))
  f48 := Try.func122.trans (congrArg some (by kernel_rfl))
  f49 := ⟨Try.f138.name, by decide, Try.func138.trans (congrArg some (by kernel_rfl))⟩
  f50 := ⟨Try.f139.name, by decide, Try.func139.trans (congrArg some (by kernel_rfl))⟩
  f57 := ⟨Try.f147.name, by decide, Try.func147.trans (congrArg some (by kernel_rfl))⟩
  t0 := Try.underlying0
  a0 := Try.isAgg0
  z0 := Try.sizeOf0
  v0 := Try.zeroValue0
  t3 := Try.underlying3
  a3 := Try.isAgg3
  z3 := Try.sizeOf3
  v3 := Try.zeroValue3
  t4 := Try.underlying4
  a4 := Try.isAgg4
  z4 := Try.sizeOf4
  v4 := Try.zeroValue4
  t5 := Try.underlying5
  a5 := Try.isAgg5
  z5 := Try.sizeOf5
  v5 := Try.zeroValue5
  t9 := Try.underlying9
  a9 := Try.isAgg9
  z9 := Try.sizeOf9
  v9 := Try.zeroValue9
  t22 := Try.underlying25
  a22 := Try.isAgg25
  z22 := Try.sizeOf25
  v22 := Try.zeroValue25
  t25 := Try.underlying60
  a25 := Try.isAgg60
  z25 := Try.sizeOf60
  v25 := Try.zeroValue60
  t39 := Try.underlying72
  a39 := Try.isAgg72
  z39 := Try.sizeOf72
  v39 := Try.zeroValue72
  t45 := Try.underlying94
  a45 := Try.isAgg94
  z45 := Try.sizeOf94
  v45 := Try.zeroValue94
  t46 := Try.underlying95
  a46 := Try.isAgg95
  z46 := Try.sizeOf95
  v46 := Try.zeroValue95
  t50 := Try.underlying99
  a50 := Try.isAgg99
  z50 := Try.sizeOf99
  v50 := Try.zeroValue99
  t53 := Try.underlying102
  a53 := Try.isAgg102
  z53 := Try.sizeOf102
  v53 := Try.zeroValue102
  t55 := Try.underlying104
  a55 := Try.isAgg104
  z55 := Try.sizeOf104
  v55 := Try.zeroValue104
  t66 := Try.underlying127
  a66 := Try.isAgg127
  z66 := Try.sizeOf127
  v66 := Try.zeroValue127
  t70 := Try.underlying131
  a70 := Try.isAgg131
  z70 := Try.sizeOf131
  v70 := Try.zeroValue131
  t76 := Try.underlying141
  a76 := Try.isAgg141
  z76 := Try.sizeOf141
  v76 := Try.zeroValue141
  t77 := Try.underlying142
  a77 := Try.isAgg142
  z77 := Try.sizeOf142
  v77 := Try.zeroValue142 }
open Go.RowKit Go.Lib Go.Sort in
theorem Try.pdqsortCmpFunc_none {α : Type} [Inhabited α] (p : Option Addr) (cap : Nat) (lim : Int) (fv : Value) (w : World) :
    Calls Try.prog 68 #[.slice p 0 cap, .int .i64 0, .int .i64 0, .int .i64 lim, fv] w fun e w' => e = .returned (.tuple #[]) ∧ w' = w := AnyF.pdqsortCmpFunc_none Try.laysSlF014_f68 p cap lim fv w
def Try.laysSlF06_f47_ren : Go.Shelf.Ren := ⟨fun | 6 => 47 | 15 => 58 | 14 => 68 | 28 => 79 | 29 => 80 | 20 => 111 | 21 => 112 | 22 => 113 | 23 => 114 | 24 => 115 | 25 => 116 | 26 => 117 | 27 => 118 | 46 => 137 | 47 => 121 | 48 => 122 | 49 => 138 | 50 => 139 | 57 => 147 | n => n, fun | 22 => 25 | 24 => 3 | 25 => 60 | 3 => 3 | 39 => 72 | 0 => 0 | 53 => 102 | 55 => 104 | 4 => 4 | 46 => 95 | 45 => 94 | 50 => 99 | 5 => 5 | 9 => 9 | 66 => 127 | 70 => 131 | 76 => 141 | 77 => 142 | n => n, fun | n => n⟩
theorem Try.laysSlF06_f47 : Go.Proofs.SlLaysF0.n6 Try.prog Try.laysSlF06_f47_ren := {
  mixed := by kernel_rfl
  f6 := ⟨Try.f47.name, by decide, Try.func47.trans (congrArg some (by kernel_rfl))⟩
  f14 := ⟨Try.f68.name, by decide, Try.func68.trans (congrArg some (by kernel_rfl))⟩
  f15 := Try.func58.trans (congrArg some (by kernel_rfl))
  f20 := ⟨Try.f111.name, by decide, Try.func111.trans (congrArg some (by kernel_rfl))⟩
  f21 := ⟨Try.f112.name, by decide, Try.func112.trans (congrArg some (by kernel_rfl))⟩
  f22 := ⟨Try.f113.name, by decide, Try.func113.trans (congrArg some (by kernel_rfl))⟩
  f23 := ⟨Try.f114.name, by decide, Try.func114.trans (congrArg some (by kernel_rfl))⟩
  f24 := ⟨Try.f115.name, by decide, Try.func115.trans (congrArg some (by kernel_rfl))⟩
  f25 := ⟨Try.f116.name, by decide, Try.func116.trans (congrArg some (by kernel_rfl))⟩
  f26 := ⟨Try.f117.name, by decide, Try.func117.trans (congrArg some (by kernel_rfl))⟩
  f27 := ⟨Try.f118.name, by decide, Try.func118.trans (congrArg some (by kernel_rfl))⟩
  f28 := Try.func79.trans (congrArg some (by kernel_rfl))
  f29 := Try.func80.trans (congrArg some (by kernel_rfl))
  f46 := ⟨Try.f137.name, by decide, Try.func137.trans (congrArg some (by kernel_rfl))⟩
  f47 := Try.func121.trans (congrArg some (by kernel_rfl))
  f48 := Try.func122.trans (congrArg some (by kernel_rfl))
  f49 := ⟨Try.f138.name, by decide, Try.func138.trans (congrArg some (by kernel_rfl))⟩
  f50 := ⟨Try.f139.name, by decide, Try.func139.trans (congrArg some (by kernel_rfl))⟩
  f57 := ⟨Try.f147.name, by decide, Try.func147.trans (congrArg some (by kernel_rfl))⟩
  t0 := Try.underlying0
  a0 := Try.isAgg0
  z0 := Try.sizeOf0
  v0 := Try.zeroValue0
  t3 := Try.underlying3
  a3 := Try.isAgg3
  z3 := Try.sizeOf3
  v3 := Try.zeroValue3
  t4 := Try.underlying4
  a4 := Try.isAgg4
  z4 := Try.sizeOf4
  v4 := Try.zeroValue4
  t5 := Try.underlying5
  a5 := Try.isAgg5
  z5 := Try.sizeOf5
  v5 := Try.zeroValue5
  t9 := Try.underlying9
  a9 := Try.isAgg9
  z9 := Try.sizeOf9
  v9 := Try.zeroValue9
  t22 := Try.underlying25
  a22 := Try.isAgg25
  z22 := Try.sizeOf25
  v22 := Try.zeroValue25
  t25 := Try.underlying60
  a25 := Try.isAgg60
  z25 := Try.sizeOf60
  v25 := Try.zeroValue60
  t39 := Try.underlying72
  a39 := Try.isAgg72
  z39 := Try.sizeOf72
  v39 := Try.zeroValue72
  t45 := Try.underlying94
  a45 := Try.isAgg94
  z45 := Try.sizeOf94
  v45 := Try.zeroValue94
  t46 := Try.underlying95
  a46 := Try.isAgg95
  z46 := Try.sizeOf95
  v46 := Try.zeroValue95
  t50 := Try.underlying99
  a50 := Try.isAgg99
  z50 := Try.sizeOf99
  v50 := Try.zeroValue99
  t53 := Try.underlying102
  a53 := Try.isAgg102
  z53 := Try.sizeOf102
  v53 := Try.zeroValue102
  t55 := Try.underlying104
  a55 := Try.isAgg104
  z55 := Try.sizeOf104
  v55 := Try.zeroValue104
  t66 := Try.underlying127
  a66 := Try.isAgg127
  z66 := Try.sizeOf127
  v66 := Try.zeroValue127
  t70 := Try.underlying131
  a70 := Try.isAgg131
  z70 := Try.sizeOf131
  v70 := Try.zeroValue131
  t76 := Try.underlying141
  a76 := Try.isAgg141
  z76 := Try.sizeOf141
  v76 := Try.zeroValue141
  t77 := Try.underlying142
  a77 := Try.isAgg142
  z77 := Try.sizeOf142
  v77 := Try.zeroValue142 }
open Go.RowKit Go.Lib Go.Sort in
theorem Try.slices_SortFunc_none {α : Type} [Inhabited α] (p : Option Addr) (cap : Nat) (fv : Value) (w : World) :
    Calls Try.prog 47 #[.slice p 0 cap, fv] w fun e w' => e = .returned (.tuple #[]) ∧ w' = w := AnyF.slices_SortFunc_none Try.laysSlF06_f47 p cap fv w
open Go.RowKit Go.Lib Go.Sort in
theorem Try.slices_SortFunc_total {α : Type} [Inhabited α] (enc : α → Value) (h1 : OneCell enc) (cf : α → α → Int) (hO : SWO (ltOf cf)) (g : Nat) (cb : Array Value) (blk off cap : Nat) (d : Array α) (w : World) (eg : ∀ args w, (callFunc g args).run Try.prog w = .ok (.enter g args) w) (hcmp : CmpLays1 Try.prog g cb enc cf blk off d.size w) (hH : Holds enc w blk off d) (hblk : blk < w.heap.size) (hsz : d.size < 4611686018427387904) (hT : ∀ x y, (ltOf cf) x y = false → (ltOf cf) y x = false → x = y) :
    Calls Try.prog 47 #[.slice (some ⟨blk, off, none⟩) d.size cap, .func (.func g) #[] cb] w fun e w' =>
      e = .returned (.tuple #[]) ∧ ∃ n os, w' = sortWorld enc w blk off n (d.toList.mergeSort fun x y => !(ltOf cf) y x).toArray os := Any.slices_SortFunc_total Try.laysSlF6_f47 enc h1 cf hO g cb blk off cap d w eg hcmp hH hblk hsz hT
end Go.Proofs
