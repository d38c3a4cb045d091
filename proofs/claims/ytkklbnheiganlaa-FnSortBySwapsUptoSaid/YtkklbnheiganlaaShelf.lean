/-
  The kit's contracts at this seat's program, laid by the kit's own tools.
-/
import Derived.Shelf.Small.Bits
import Derived.Shelf.Strconv.Itoa0
import Derived.Shelf.Sort.Plain
import Derived.Shelf.Slices.Reverse
import Derived.Ground.Names2Prog
import Derived.Shelf.Slices.SearchI
import Derived.Shelf.Slices.Cells
import Derived.Shelf.Slices.In.SortNone
import Derived.Shelf.Slices.In.SortNone2
import Derived.Ground.GgsProg
import Derived.Shelf.SlSortFunc.Xorshift
import Derived.Test.YtkklbnheiganlaaProg
namespace Go.Proofs
open Go.Shelf
def Try.lays128_ren : Go.Shelf.Ren := ⟨fun | 128 => 70 | n => n, fun | 51 => 96 | 3 => 3 | 4 => 4 | 46 => 89 | 5 => 5 | 9 => 9 | n => n, fun | n => n⟩
theorem Try.lays128 : Go.Proofs.Lays.n128 Try.prog Try.lays128_ren := {
  mixed := by kernel_rfl
  f128 := Try.func70.trans (congrArg some (by kernel_rfl))
  t3 := Try.underlying3
  a3 := Try.isAgg3
  z3 := Try.sizeOf3
  v3 := Try.zeroValue3
  t4 := Try.underlying4
  a4 := Try.isAgg4
  z4 := Try.sizeOf4
  v4 := Try.zeroValue4
  t5 := Try.underlying5
  a5 := Try.isAgg5
  z5 := Try.sizeOf5
  v5 := Try.zeroValue5
  t9 := Try.underlying9
  a9 := Try.isAgg9
  z9 := Try.sizeOf9
  v9 := Try.zeroValue9
  t46 := Try.underlying89
  a46 := Try.isAgg89
  z46 := Try.sizeOf89
  v46 := Try.zeroValue89
  t51 := Try.underlying96
  a51 := Try.isAgg96
  z51 := Try.sizeOf96
  v51 := Try.zeroValue96 }
theorem Try.bits_Len32 (x : Int) (w : World) (h0 : 0 ≤ x) (h1 : x ≤ 4294967295) :
    Calls Try.prog 70 #[.int .u32 x] w fun e w' => e = .returned (.int .i64 (Lib.bitLen x.toNat)) ∧ w' = w := Any.bits_Len32 Try.lays128 x w h0 h1
def Try.lays125_ren : Go.Shelf.Ren := ⟨fun | 125 => 62 | 128 => 70 | 129 => 71 | n => n, fun | 46 => 89 | 3 => 3 | 51 => 96 | 53 => 98 | 4 => 4 | 5 => 5 | 9 => 9 | n => n, fun | n => n⟩
theorem Try.lays125 : Go.Proofs.Lays.n125 Try.prog Try.lays125_ren := {
  mixed := by kernel_rfl
  f125 := Try.func62.trans (congrArg some (by kernel_rfl))
  f128 := Try.func70.trans (congrArg some (by kernel_rfl))
  f129 := Try.func71.trans (congrArg some (by kernel_rfl))
  t3 := Try.underlying3
  a3 := Try.isAgg3
  z3 := Try.sizeOf3
  v3 := Try.zeroValue3
  t4 := Try.underlying4
  a4 := Try.isAgg4
  z4 := Try.sizeOf4
  v4 := Try.zeroValue4
  t5 := Try.underlying5
  a5 := Try.isAgg5
  z5 := Try.sizeOf5
  v5 := Try.zeroValue5
  t9 := Try.underlying9
  a9 := Try.isAgg9
  z9 := Try.sizeOf9
  v9 := Try.zeroValue9
  t46 := Try.underlying89
  a46 := Try.isAgg89
  z46 := Try.sizeOf89
  v46 := Try.zeroValue89
  t51 := Try.underlying96
  a51 := Try.isAgg96
  z51 := Try.sizeOf96
  v51 := Try.zeroValue96
  t53 := Try.underlying98
  a53 := Try.isAgg98
  z53 := Try.sizeOf98
  v53 := Try.zeroValue98 }
theorem Try.bits_Len (x : Int) (w : World) (h0 : 0 ≤ x) (h1 : x ≤ 18446744073709551615) :
    Calls Try.prog 62 #[.int .u64 x] w fun e w' => e = .returned (.int .i64 (Lib.bitLen x.toNat)) ∧ w' = w := Any.bits_Len Try.lays125 x w h0 h1
def Try.lays129_ren : Go.Shelf.Ren := ⟨fun | 129 => 71 | n => n, fun | 53 => 98 | 3 => 3 | 4 => 4 | 46 => 89 | 5 => 5 | 9 => 9 | n => n, fun | n => n⟩
theorem Try.lays129 : Go.Proofs.Lays.n129 Try.prog Try.lays129_ren := {
  mixed := by kernel_rfl
  f129 := Try.func71.trans (congrArg some (by kernel_rfl))
  t3 := Try.underlying3
  a3 := Try.isAgg3
  z3 := Try.sizeOf3
  v3 := Try.zeroValue3
  t4 := Try.underlying4
  a4 := Try.isAgg4
  z4 := Try.sizeOf4
  v4 := Try.zeroValue4
  t5 := Try.underlying5
  a5 := Try.isAgg5
  z5 := Try.sizeOf5
  v5 := Try.zeroValue5
  t9 := Try.underlying9
  a9 := Try.isAgg9
  z9 := Try.sizeOf9
  v9 := Try.zeroValue9
  t46 := Try.underlying89
  a46 := Try.isAgg89
  z46 := Try.sizeOf89
  v46 := Try.zeroValue89
  t53 := Try.underlying98
  a53 := Try.isAgg98
  z53 := Try.sizeOf98
  v53 := Try.zeroValue98 }
theorem Try.bits_Len64 (x : Int) (w : World) (h0 : 0 ≤ x) (h1 : x ≤ 18446744073709551615) :
    Calls Try.prog 71 #[.int .u64 x] w fun e w' => e = .returned (.int .i64 (Lib.bitLen x.toNat)) ∧ w' = w := Any.bits_Len64 Try.lays129 x w h0 h1
def Try.lays189_ren : Go.Shelf.Ren := ⟨fun | 189 => 67 | 125 => 62 | 257 => 89 | 128 => 70 | 129 => 71 | 294 => 109 | 295 => 110 | 296 => 111 | 297 => 112 | 298 => 113 | 299 => 114 | 216 => 115 | 300 => 116 | 301 => 117 | 328 => 124 | 329 => 105 | 330 => 106 | 331 => 125 | 332 => 126 | 215 => 127 | 343 => 129 | n => n, fun | 28 => 30 | 3 => 3 | 46 => 89 | 0 => 0 | 51 => 96 | 53 => 98 | 4 => 4 | 183 => 110 | 182 => 109 | 131 => 106 | 5 => 5 | 9 => 9 | 218 => 128 | 222 => 126 | 228 => 140 | 229 => 79 | n => n, fun | n => n⟩
theorem Try.lays189 : Go.Proofs.Lays.n189 Try.prog Try.lays189_ren := {
  mixed := by kernel_rfl
  f125 := Try.func62.trans (congrArg some (by kernel_rfl))
  f128 := Try.func70.trans (congrArg some (by kernel_rfl))
  f129 := Try.func71.trans (congrArg some (by kernel_rfl))
  f189 := Try.func67.trans (congrArg some (by kernel_rfl))
  f215 := Try.func127.trans (congrArg some (by kernel_rfl))
  f216 := Try.func115.trans (congrArg some (by kernel_rfl))
  f257 := Try.func89.trans (congrArg some (by kernel_rfl))
  f294 := Try.func109.trans (congrArg some (by kernel_rfl))
  f295 := Try.func110.trans (congrArg some (by kernel_rfl))
  f296 := Try.func111.trans (congrArg some (by kernel_rfl))
  f297 := Try.func112.trans (congrArg some (by kernel_rfl))
  f298 := Try.func113.trans (congrArg some (by kernel_rfl))
  f299 := Try.func114.trans (congrArg some (by kernel_rfl))
  f300 := Try.func116.trans (congrArg some (by kernel_rfl))
  f301 := Try.func117.trans (congrArg some (by kernel_rfl))
  f328 := Try.func124.trans (congrArg some (by kernel_rfl))
  f329 := Try.func105.trans (congrArg some (by kernel_rfl))
  f330 := Try.func106.trans (congrArg some (by kernel_rfl))
  f331 := Try.func125.trans (congrArg some (by kernel_rfl))
  f332 := Try.func126.trans (congrArg some (by kernel_rfl))
  f343 := Try.func129.trans (congrArg some (by kernel_rfl))
  t0 := Try.underlying0
  a0 := Try.isAgg0
  z0 := Try.sizeOf0
  v0 := Try.zeroValue0
  t3 := Try.underlying3
  a3 := Try.isAgg3
  z3 := Try.sizeOf3
  v3 := Try.zeroValue3
  t4 := Try.underlying4
  a4 := Try.isAgg4
  z4 := Try.sizeOf4
  v4 := Try.zeroValue4
  t5 := Try.underlying5
  a5 := Try.isAgg5
  z5 := Try.sizeOf5
  v5 := Try.zeroValue5
  t9 := Try.underlying9
  a9 := Try.isAgg9
  z9 := Try.sizeOf9
  v9 := Try.zeroValue9
  t28 := Try.underlying30
  a28 := Try.isAgg30
  z28 := Try.sizeOf30
  v28 := Try.zeroValue30
  t46 := Try.underlying89
  a46 := Try.isAgg89
  z46 := Try.sizeOf89
  v46 := Try.zeroValue89
  t51 := Try.underlying96
  a51 := Try.isAgg96
  z51 := Try.sizeOf96
  v51 := Try.zeroValue96
  t53 := Try.underlying98
  a53 := Try.isAgg98
  z53 := Try.sizeOf98
  v53 := Try.zeroValue98
  t131 := Try.underlying106
  a131 := Try.isAgg106
  z131 := Try.sizeOf106
  v131 := Try.zeroValue106
  t182 := Try.underlying109
  a182 := Try.isAgg109
  z182 := Try.sizeOf109
  v182 := Try.zeroValue109
  t183 := Try.underlying110
  a183 := Try.isAgg110
  z183 := Try.sizeOf110
  v183 := Try.zeroValue110
  t218 := Try.underlying128
  a218 := Try.isAgg128
  z218 := Try.sizeOf128
  v218 := Try.zeroValue128
  t222 := Try.underlying126
  a222 := Try.isAgg126
  z222 := Try.sizeOf126
  v222 := Try.zeroValue126
  t228 := Try.underlying140
  a228 := Try.isAgg140
  z228 := Try.sizeOf140
  v228 := Try.zeroValue140
  t229 := Try.underlying79
  a229 := Try.isAgg79
  z229 := Try.sizeOf79
  v229 := Try.zeroValue79 }
open Go.Sort Go.RowKit in
theorem Try.slices_Sort_int (blk off cap : Nat) (zs : List Int) (w : World) (hH : Holds (Value.int .i64) w blk off zs.toArray) (hblk : blk < w.heap.size) (hsz : zs.length < 4611686018427387904) :
    Calls Try.prog 67 #[.slice (some ⟨blk, off, none⟩) zs.length cap] w fun e w' =>
      e = .returned (.tuple #[]) ∧ ∃ n os, w' = grow (putRow (Value.int .i64) (Sort.ahead w n) blk off (zs.mergeSort fun x y => decide (x ≤ y)).toArray) os := Any.slices_Sort_int Try.lays189 blk off cap zs w hH hblk hsz
def Try.lays191_ren : Go.Shelf.Ren := ⟨fun | 191 => 56 | 189 => 67 | 125 => 62 | 257 => 89 | 128 => 70 | 129 => 71 | 294 => 109 | 295 => 110 | 296 => 111 | 297 => 112 | 298 => 113 | 299 => 114 | 216 => 115 | 300 => 116 | 301 => 117 | 328 => 124 | 329 => 105 | 330 => 106 | 331 => 125 | 332 => 126 | 215 => 127 | 343 => 129 | n => n, fun | 28 => 30 | 0 => 0 | 3 => 3 | 46 => 89 | 51 => 96 | 53 => 98 | 4 => 4 | 183 => 110 | 182 => 109 | 131 => 106 | 5 => 5 | 9 => 9 | 218 => 128 | 222 => 126 | 228 => 140 | 229 => 79 | n => n, fun | n => n⟩
theorem Try.lays191 : Go.Proofs.Lays.n191 Try.prog Try.lays191_ren := {
  mixed := by kernel_rfl
  f125 := Try.func62.trans (congrArg some (by kernel_rfl))
  f128 := Try.func70.trans (congrArg some (by kernel_rfl))
  f129 := Try.func71.trans (congrArg some (by kernel_rfl))
  f189 := Try.func67.trans (congrArg some (by kernel_rfl))
  f191 := Try.func56.trans (congrArg some (by kernel_rfl))
  f215 := Try.func127.trans (congrArg some (by kernel_rfl))
  f216 := Try.func115.trans (congrArg some (by kernel_rfl))
  f257 := Try.func89.trans (congrArg some (by kernel_rfl))
  f294 := Try.func109.trans (congrArg some (by kernel_rfl))
  f295 := Try.func110.trans (congrArg some (by kernel_rfl))
  f296 := Try.func111.trans (congrArg some (by kernel_rfl))
  f297 := Try.func112.trans (congrArg some (by kernel_rfl))
  f298 := Try.func113.trans (congrArg some (by kernel_rfl))
  f299 := Try.func114.trans (congrArg some (by kernel_rfl))
  f300 := Try.func116.trans (congrArg some (by kernel_rfl))
  f301 := Try.func117.trans (congrArg some (by kernel_rfl))
  f328 := Try.func124.trans (congrArg some (by kernel_rfl))
  f329 := Try.func105.trans (congrArg some (by kernel_rfl))
  f330 := Try.func106.trans (congrArg some (by kernel_rfl))
  f331 := Try.func125.trans (congrArg some (by kernel_rfl))
  f332 := Try.func126.trans (congrArg some (by kernel_rfl))
  f343 := Try.func129.trans (congrArg some (by kernel_rfl))
  t0 := Try.underlying0
  a0 := Try.isAgg0
  z0 := Try.sizeOf0
  v0 := Try.zeroValue0
  t3 := Try.underlying3
  a3 := Try.isAgg3
  z3 := Try.sizeOf3
  v3 := Try.zeroValue3
  t4 := Try.underlying4
  a4 := Try.isAgg4
  z4 := Try.sizeOf4
  v4 := Try.zeroValue4
  t5 := Try.underlying5
  a5 := Try.isAgg5
  z5 := Try.sizeOf5
  v5 := Try.zeroValue5
  t9 := Try.underlying9
  a9 := Try.isAgg9
  z9 := Try.sizeOf9
  v9 := Try.zeroValue9
  t28 := Try.underlying30
  a28 := Try.isAgg30
  z28 := Try.sizeOf30
  v28 := Try.zeroValue30
  t46 := Try.underlying89
  a46 := Try.isAgg89
  z46 := Try.sizeOf89
  v46 := Try.zeroValue89
  t51 := Try.underlying96
  a51 := Try.isAgg96
  z51 := Try.sizeOf96
  v51 := Try.zeroValue96
  t53 := Try.underlying98
  a53 := Try.isAgg98
  z53 := Try.sizeOf98
  v53 := Try.zeroValue98
  t131 := Try.underlying106
  a131 := Try.isAgg106
  z131 := Try.sizeOf106
  v131 := Try.zeroValue106
  t182 := Try.underlying109
  a182 := Try.isAgg109
  z182 := Try.sizeOf109
  v182 := Try.zeroValue109
  t183 := Try.underlying110
  a183 := Try.isAgg110
  z183 := Try.sizeOf110
  v183 := Try.zeroValue110
  t218 := Try.underlying128
  a218 := Try.isAgg128
  z218 := Try.sizeOf128
  v218 := Try.zeroValue128
  t222 := Try.underlying126
  a222 := Try.isAgg126
  z222 := Try.sizeOf126
  v222 := Try.zeroValue126
  t228 := Try.underlying140
  a228 := Try.isAgg140
  z228 := Try.sizeOf140
  v228 := Try.zeroValue140
  t229 := Try.underlying79
  a229 := Try.isAgg79
  z229 := Try.sizeOf79
  v229 := Try.zeroValue79 }
open Go.Sort Go.RowKit in
theorem Try.sort_Ints (blk off cap : Nat) (zs : List Int) (w : World) (hH : Holds (Value.int .i64) w blk off zs.toArray) (hblk : blk < w.heap.size) (hsz : zs.length < 4611686018427387904) :
    Calls Try.prog 56 #[.slice (some ⟨blk, off, none⟩) zs.length cap] w fun e w' =>
      e = .returned (.tuple #[]) ∧ ∃ n os, w' = grow (putRow (Value.int .i64) (Sort.ahead w n) blk off (zs.mergeSort fun x y => decide (x ≤ y)).toArray) os := Any.sort_Ints Try.lays191 blk off cap zs w hH hblk hsz
def Try.lays112_ren : Go.Shelf.Ren := ⟨fun | 112 => 58 | n => n, fun | 28 => 30 | 3 => 3 | 4 => 4 | 0 => 0 | n => n, fun | n => n⟩
theorem Try.lays112 : Go.Proofs.Lays.n112 Try.prog Try.lays112_ren := {
  mixed := by kernel_rfl
  f112 := Try.func58.trans (congrArg some (by kernel_rfl))
  t0 := Try.underlying0
  a0 := Try.isAgg0
  z0 := Try.sizeOf0
  v0 := Try.zeroValue0
  t3 := Try.underlying3
  a3 := Try.isAgg3
  z3 := Try.sizeOf3
  v3 := Try.zeroValue3
  t4 := Try.underlying4
  a4 := Try.isAgg4
  z4 := Try.sizeOf4
  v4 := Try.zeroValue4
  t28 := Try.underlying30
  a28 := Try.isAgg30
  z28 := Try.sizeOf30
  v28 := Try.zeroValue30 }
open Go.RowKit Go.Lib Go.Sort in
theorem Try.slices_Reverse_int_arr (blk off cap : Nat) (d : Array Int) (w : World) (hH : Holds encI w blk off d) (hsz : d.size ≤ 9223372036854775807) :
    Calls Try.prog 58 #[.slice (some ⟨blk, off, none⟩) d.size cap] w fun e w' => e = .returned (.tuple #[]) ∧ ∃ n, w' = putRow encI (Sort.ahead w n) blk off d.reverse := Any.slices_Reverse_int_arr Try.lays112 blk off cap d w hH hsz
open Go.RowKit Go.Lib Go.Sort in
theorem Try.slices_Reverse_int (blk off cap : Nat) (zs : List Int) (w : World) (hH : Holds (Value.int .i64) w blk off zs.toArray) (hsz : zs.length ≤ 9223372036854775807) :
    Calls Try.prog 58 #[.slice (some ⟨blk, off, none⟩) zs.length cap] w fun e w' => e = .returned (.tuple #[]) ∧ ∃ n, w' = putRow (Value.int .i64) (Sort.ahead w n) blk off zs.reverse.toArray := Any.slices_Reverse_int Try.lays112 blk off cap zs w hH hsz
open Go.RowKit Go.Lib Go.Sort in
theorem Try.slices_Reverse_int_empty (a : Option Addr) (cap : Nat) (w : World) :
    Calls Try.prog 58 #[.slice a 0 cap] w fun e w' => e = .returned (.tuple #[]) ∧ w' = w := Any.slices_Reverse_int_empty Try.lays112 a cap w
def Try.laysNm237_ren : Go.Shelf.Ren := ⟨fun | 37 => 127 | n => n, fun | 3 => 3 | 4 => 4 | n => n, fun | n => n⟩
theorem Try.laysNm237 : Go.Proofs.Lays2.n37 Try.prog Try.laysNm237_ren := {
  mixed := by kernel_rfl
  f37 := Try.func127.trans (congrArg some (by kernel_rfl))
  t3 := Try.underlying3
  a3 := Try.isAgg3
  z3 := Try.sizeOf3
  v3 := Try.zeroValue3
  t4 := Try.underlying4
  a4 := Try.isAgg4
  z4 := Try.sizeOf4
  v4 := Try.zeroValue4 }
open Go.RowKit Go.Lib in
theorem Try.cmp_isNaN_int2 (x : Int) (w : World) :
    Calls Try.prog 127 #[.int .i64 x] w fun e w' => e = .returned (.bool false) ∧ w' = w := Any.cmp_isNaN_int2 Try.laysNm237 x w
def Try.laysNm231_ren : Go.Shelf.Ren := ⟨fun | 31 => 115 | 37 => 127 | n => n, fun | 3 => 3 | 4 => 4 | n => n, fun | n => n⟩
theorem Try.laysNm231 : Go.Proofs.Lays2.n31 Try.prog Try.laysNm231_ren := {
  mixed := by kernel_rfl
  f31 := Try.func115.trans (congrArg some (by kernel_rfl))
  f37 := Try.func127.trans (congrArg some (by kernel_rfl))
  t3 := Try.underlying3
  a3 := Try.isAgg3
  z3 := Try.sizeOf3
  v3 := Try.zeroValue3
  t4 := Try.underlying4
  a4 := Try.isAgg4
  z4 := Try.sizeOf4
  v4 := Try.zeroValue4 }
open Go.RowKit Go.Lib in
theorem Try.cmp_Less_int2 (x y : Int) (w : World) :
    Calls Try.prog 115 #[.int .i64 x, .int .i64 y] w fun e w' => e = .returned (.bool (decide (x < y))) ∧ w' = w := Any.cmp_Less_int2 Try.laysNm231 x y w
open Go.RowKit Go.Lib Go.Sort in
theorem Try.slices_Reverse_int_cells (b off n c : Nat) (zs : List Int) (w : World) (hz : n ≤ zs.length) (hbig : n ≤ 9223372036854775807) (hc : ∀ j, j < zs.length → w.cell? ⟨b, off + j, none⟩ = some (.int .i64 (zs.getD j 0))) (hf : ∀ j, j < n → w.frozen? ⟨b, off + j, none⟩ = false) :
    Calls Try.prog 58 #[.slice (some ⟨b, off, none⟩) n c] w fun e w' => e = .returned (.tuple #[]) ∧ ∃ q, w' = (w.drewN q).setCells b off ((zs.take n).reverse.map (Value.int .i64)) := Any.slices_Reverse_int_cells Try.lays112 b off n c zs w hz hbig hc hf
open Go.RowKit Go.Sort in
theorem Try.slices_Sort_int_none (p : Option Addr) (cap : Nat) (w : World) :
    Calls Try.prog 67 #[.slice p 0 cap] w fun e w' => e = .returned (.tuple #[]) ∧ w' = w := Any.slices_Sort_int_none Try.lays189 p cap w
open Go.RowKit Go.Sort in
theorem Try.sort_Ints_none (p : Option Addr) (cap : Nat) (w : World) :
    Calls Try.prog 56 #[.slice p 0 cap] w fun e w' => e = .returned (.tuple #[]) ∧ w' = w := Any.sort_Ints_none Try.lays191 p cap w
def Try.laysGg36_ren : Go.Shelf.Ren := ⟨fun | 36 => 100 | n => n, fun | 66 => 138 | 51 => 98 | 0 => 0 | 60 => 122 | 41 => 89 | n => n, fun | n => n⟩
theorem Try.laysGg36 : Go.Proofs.LaysGg.n36 Try.prog Try.laysGg36_ren := {
  mixed := by kernel_rfl
  f36 := Try.func100.trans (congrArg some (by kernel_rfl))
  t0 := Try.underlying0
  a0 := Try.isAgg0
  z0 := Try.sizeOf0
  v0 := Try.zeroValue0
  i0 := by kernel_rfl
  t41 := Try.underlying89
  a41 := Try.isAgg89
  z41 := Try.sizeOf89
  v41 := Try.zeroValue89
  i41 := by kernel_rfl
  t51 := Try.underlying98
  a51 := Try.isAgg98
  z51 := Try.sizeOf98
  v51 := Try.zeroValue98
  i51 := by kernel_rfl
  t60 := Try.underlying122
  a60 := Try.isAgg122
  z60 := Try.sizeOf122
  v60 := Try.zeroValue122
  i60 := by kernel_rfl
  t66 := Try.underlying138
  a66 := Try.isAgg138
  z66 := Try.sizeOf138
  v66 := Try.zeroValue138
  i66 := by kernel_rfl }
open Go.RowKit Go.Lib Go.Sort in
theorem Try.xorshift_Next (rb ro X : Nat) (hX : X < 18446744073709551616) (w : World) (hc : w.cell? ⟨rb, ro, none⟩ = some (.int .u64 X)) (hf : w.frozen? ⟨rb, ro, none⟩ = false) :
    Calls Try.prog 100 #[.pointer (some ⟨rb, ro, none⟩)] w fun e w' => e = .returned (.int .u64 (xorNextN X : Nat)) ∧ w' = (w.setCell ⟨rb, ro, none⟩ (.int .u64 (xorNextN X : Nat))).drewN 3 := Any.xorshift_Next Try.laysGg36 rb ro X hX w hc hf
def Try.laysGg35_ren : Go.Shelf.Ren := ⟨fun | 35 => 99 | 13 => 62 | 24 => 70 | 25 => 71 | n => n, fun | 3 => 3 | 41 => 89 | 49 => 96 | 51 => 98 | 4 => 4 | 5 => 5 | 9 => 9 | n => n, fun | n => n⟩
theorem Try.laysGg35 : Go.Proofs.LaysGg.n35 Try.prog Try.laysGg35_ren := {
  mixed := by kernel_rfl
  f13 := Try.func62.trans (congrArg some (by kernel_rfl))
  f24 := Try.func70.trans (congrArg some (by kernel_rfl))
  f25 := Try.func71.trans (congrArg some (by kernel_rfl))
  f35 := Try.func99.trans (congrArg some (by kernel_rfl))
  t3 := Try.underlying3
  a3 := Try.isAgg3
  z3 := Try.sizeOf3
  v3 := Try.zeroValue3
  i3 := by kernel_rfl
  t4 := Try.underlying4
  a4 := Try.isAgg4
  z4 := Try.sizeOf4
  v4 := Try.zeroValue4
  i4 := by kernel_rfl
  t5 := Try.underlying5
  a5 := Try.isAgg5
  z5 := Try.sizeOf5
  v5 := Try.zeroValue5
  i5 := by kernel_rfl
  t9 := Try.underlying9
  a9 := Try.isAgg9
  z9 := Try.sizeOf9
  v9 := Try.zeroValue9
  i9 := by kernel_rfl
  t41 := Try.underlying89
  a41 := Try.isAgg89
  z41 := Try.sizeOf89
  v41 := Try.zeroValue89
  i41 := by kernel_rfl
  t49 := Try.underlying96
  a49 := Try.isAgg96
  z49 := Try.sizeOf96
  v49 := Try.zeroValue96
  i49 := by kernel_rfl
  t51 := Try.underlying98
  a51 := Try.isAgg98
  z51 := Try.sizeOf98
  v51 := Try.zeroValue98
  i51 := by kernel_rfl }
open Go.RowKit Go.Lib Go.Sort in
theorem Try.nextPowerOfTwo (n : Nat) (hn : n < 4611686018427387904) (w : World) :
    Calls Try.prog 99 #[.int .i64 n] w fun e w' => e = .returned (.int .u64 ((1 <<< bitsLen n : Nat) : Int)) ∧ w' = w := Any.nextPowerOfTwo Try.laysGg35 n hn w
end Go.Proofs
