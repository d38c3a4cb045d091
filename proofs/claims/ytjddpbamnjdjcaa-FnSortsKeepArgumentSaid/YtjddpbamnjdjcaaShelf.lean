/-
  The kit's contracts at this seat's program, laid by the kit's own tools.
-/
import Derived.Shelf.Small.Bits
import Derived.Shelf.Strconv.Itoa0
import Derived.Shelf.Sort.Plain
import Derived.Shelf.Slices.Reverse
import Derived.Ground.Names2Prog
import Derived.Shelf.Slices.CompactI
import Derived.Shelf.Slices.CompactS
import Derived.Shelf.Slices.SearchI
import Derived.Shelf.Slices.Cells
import Derived.Shelf.Slices.In.SortNone
import Derived.Shelf.Slices.In.SortNone2
import Derived.Test.YtjddpbamnjdjcaaProg
namespace Go.Proofs
open Go.Shelf
def Try.lays128_ren : Go.Shelf.Ren := ⟨fun | 128 => 77 | n => n, fun | 51 => 58 | 3 => 3 | 4 => 4 | 46 => 46 | 5 => 5 | 9 => 9 | n => n, fun | n => n⟩
theorem Try.lays128 : Go.Proofs.Lays.n128 Try.prog Try.lays128_ren := {
  mixed := by kernel_rfl
  f128 := Try.func77.trans (congrArg some (by kernel_rfl))
  t3 := Try.underlying3
  a3 := Try.isAgg3
  z3 := Try.sizeOf3
  v3 := Try.zeroValue3
  t4 := Try.underlying4
  a4 := Try.isAgg4
  z4 := Try.sizeOf4
  v4 := Try.zeroValue4
  t5 := Try.underlying5
  a5 := Try.isAgg5
  z5 := Try.sizeOf5
  v5 := Try.zeroValue5
  t9 := Try.underlying9
  a9 := Try.isAgg9
  z9 := Try.sizeOf9
  v9 := Try.zeroValue9
  t46 := Try.underlying46
  a46 := Try.isAgg46
  z46 := Try.sizeOf46
  v46 := Try.zeroValue46
  t51 := Try.underlying58
  a51 := Try.isAgg58
  z51 := Try.sizeOf58
  v51 := Try.zeroValue58 }
theorem Try.bits_Len32 (x : Int) (w : World) (h0 : 0 ≤ x) (h1 : x ≤ 4294967295) :
    Calls Try.prog 77 #[.int .u32 x] w fun e w' => e = .returned (.int .i64 (Lib.bitLen x.toNat)) ∧ w' = w := Any.bits_Len32 Try.lays128 x w h0 h1
def Try.lays125_ren : Go.Shelf.Ren := ⟨fun | 125 => 64 | 128 => 77 | 129 => 78 | n => n, fun | 46 => 46 | 3 => 3 | 51 => 58 | 53 => 60 | 4 => 4 | 5 => 5 | 9 => 9 | n => n, fun | n => n⟩
theorem Try.lays125 : Go.Proofs.Lays.n125 Try.prog Try.lays125_ren := {
  mixed := by kernel_rfl
  f125 := Try.func64.trans (congrArg some (by kernel_rfl))
  f128 := Try.func77.trans (congrArg some (by kernel_rfl))
  f129 := Try.func78.trans (congrArg some (by kernel_rfl))
  t3 := Try.underlying3
  a3 := Try.isAgg3
  z3 := Try.sizeOf3
  v3 := Try.zeroValue3
  t4 := Try.underlying4
  a4 := Try.isAgg4
  z4 := Try.sizeOf4
  v4 := Try.zeroValue4
  t5 := Try.underlying5
  a5 := Try.isAgg5
  z5 := Try.sizeOf5
  v5 := Try.zeroValue5
  t9 := Try.underlying9
  a9 := Try.isAgg9
  z9 := Try.sizeOf9
  v9 := Try.zeroValue9
  t46 := Try.underlying46
  a46 := Try.isAgg46
  z46 := Try.sizeOf46
  v46 := Try.zeroValue46
  t51 := Try.underlying58
  a51 := Try.isAgg58
  z51 := Try.sizeOf58
  v51 := Try.zeroValue58
  t53 := Try.underlying60
  a53 := Try.isAgg60
  z53 := Try.sizeOf60
  v53 := Try.zeroValue60 }
theorem Try.bits_Len (x : Int) (w : World) (h0 : 0 ≤ x) (h1 : x ≤ 18446744073709551615) :
    Calls Try.prog 64 #[.int .u64 x] w fun e w' => e = .returned (.int .i64 (Lib.bitLen x.toNat)) ∧ w' = w := Any.bits_Len Try.lays125 x w h0 h1
def Try.lays129_ren : Go.Shelf.Ren := ⟨fun | 129 => 78 | n => n, fun | 53 => 60 | 3 => 3 | 4 => 4 | 46 => 46 | 5 => 5 | 9 => 9 | n => n, fun | n => n⟩
theorem Try.lays129 : Go.Proofs.Lays.n129 Try.prog Try.lays129_ren := {
  mixed := by kernel_rfl
  f129 := Try.func78.trans (congrArg some (by kernel_rfl))
  t3 := Try.underlying3
  a3 := Try.isAgg3
  z3 := Try.sizeOf3
  v3 := Try.zeroValue3
  t4 := Try.underlying4
  a4 := Try.isAgg4
  z4 := Try.sizeOf4
  v4 := Try.zeroValue4
  t5 := Try.underlying5
  a5 := Try.isAgg5
  z5 := Try.sizeOf5
  v5 := Try.zeroValue5
  t9 := Try.underlying9
  a9 := Try.isAgg9
  z9 := Try.sizeOf9
  v9 := Try.zeroValue9
  t46 := Try.underlying46
  a46 := Try.isAgg46
  z46 := Try.sizeOf46
  v46 := Try.zeroValue46
  t53 := Try.underlying60
  a53 := Try.isAgg60
  z53 := Try.sizeOf60
  v53 := Try.zeroValue60 }
theorem Try.bits_Len64 (x : Int) (w : World) (h0 : 0 ≤ x) (h1 : x ≤ 18446744073709551615) :
    Calls Try.prog 78 #[.int .u64 x] w fun e w' => e = .returned (.int .i64 (Lib.bitLen x.toNat)) ∧ w' = w := Any.bits_Len64 Try.lays129 x w h0 h1
def Try.lays189_ren : Go.Shelf.Ren := ⟨fun | 189 => 53 | 125 => 64 | 257 => 63 | 128 => 77 | 129 => 78 | 294 => 68 | 295 => 69 | 296 => 70 | 297 => 71 | 298 => 72 | 299 => 73 | 216 => 74 | 300 => 75 | 301 => 76 | 328 => 88 | 329 => 89 | 330 => 90 | 331 => 91 | 332 => 92 | 215 => 93 | 343 => 97 | n => n, fun | 28 => 22 | 3 => 3 | 46 => 46 | 0 => 0 | 51 => 58 | 53 => 60 | 4 => 4 | 183 => 50 | 182 => 49 | 131 => 55 | 5 => 5 | 9 => 9 | 218 => 67 | 222 => 71 | 228 => 76 | 229 => 41 | n => n, fun | n => n⟩
theorem Try.lays189 : Go.Proofs.Lays.n189 Try.prog Try.lays189_ren := {
  mixed := by kernel_rfl
  f125 := Try.func64.trans (congrArg some (by kernel_rfl))
  f128 := Try.func77.trans (congrArg some (by kernel_rfl))
  f129 := Try.func78.trans (congrArg some (by kernel_rfl))
  f189 := Try.func53.trans (congrArg some (by kernel_rfl))
  f215 := Try.func93.trans (congrArg some (by kernel_rfl))
  f216 := Try.func74.trans (congrArg some (by kernel_rfl))
  f257 := Try.func63.trans (congrArg some (by kernel_rfl))
  f294 := Try.func68.trans (congrArg some (by kernel_rfl))
  f295 := Try.func69.trans (congrArg some (by kernel_rfl))
  f296 := Try.func70.trans (congrArg some (by kernel_rfl))
  f297 := Try.func71.trans (congrArg some (by kernel_rfl))
  f298 := Try.func72.trans (congrArg some (by kernel_rfl))
  f299 := Try.func73.trans (congrArg some (by kernel_rfl))
  f300 := Try.func75.trans (congrArg some (by kernel_rfl))
  f301 := Try.func76.trans (congrArg some (by kernel_rfl))
  f328 := Try.func88.trans (congrArg some (by kernel_rfl))
  f329 := Try.func89.trans (congrArg some (by kernel_rfl))
  f330 := Try.func90.trans (congrArg some (by kernel_rfl))
  f331 := Try.func91.trans (congrArg some (by kernel_rfl))
  f332 := Try.func92.trans (congrArg some (by kernel_rfl))
  f343 := Try.func97.trans (congrArg some (by kernel_rfl))
  t0 := Try.underlying0
  a0 := Try.isAgg0
  z0 := Try.sizeOf0
  v0 := Try.zeroValue0
  t3 := Try.underlying3
  a3 := Try.isAgg3
  z3 := Try.sizeOf3
  v3 := Try.zeroValue3
  t4 := Try.underlying4
  a4 := Try.isAgg4
  z4 := Try.sizeOf4
  v4 := Try.zeroValue4
  t5 := Try.underlying5
  a5 := Try.isAgg5
  z5 := Try.sizeOf5
  v5 := Try.zeroValue5
  t9 := Try.underlying9
  a9 := Try.isAgg9
  z9 := Try.sizeOf9
  v9 := Try.zeroValue9
  t28 := Try.underlying22
  a28 := Try.isAgg22
  z28 := Try.sizeOf22
  v28 := Try.zeroValue22
  t46 := Try.underlying46
  a46 := Try.isAgg46
  z46 := Try.sizeOf46
  v46 := Try.zeroValue46
  t51 := Try.underlying58
  a51 := Try.isAgg58
  z51 := Try.sizeOf58
  v51 := Try.zeroValue58
  t53 := Try.underlying60
  a53 := Try.isAgg60
  z53 := Try.sizeOf60
  v53 := Try.zeroValue60
  t131 := Try.underlying55
  a131 := Try.isAgg55
  z131 := Try.sizeOf55
  v131 := Try.zeroValue55
  t182 := Try.underlying49
  a182 := Try.isAgg49
  z182 := Try.sizeOf49
  v182 := Try.zeroValue49
  t183 := Try.underlying50
  a183 := Try.isAgg50
  z183 := Try.sizeOf50
  v183 := Try.zeroValue50
  t218 := Try.underlying67
  a218 := Try.isAgg67
  z218 := Try.sizeOf67
  v218 := Try.zeroValue67
  t222 := Try.underlying71
  a222 := Try.isAgg71
  z222 := Try.sizeOf71
  v222 := Try.zeroValue71
  t228 := Try.underlying76
  a228 := Try.isAgg76
  z228 := Try.sizeOf76
  v228 := Try.zeroValue76
  t229 := Try.underlying41
  a229 := Try.isAgg41
  z229 := Try.sizeOf41
  v229 := Try.zeroValue41 }
open Go.Sort Go.RowKit in
theorem Try.slices_Sort_int (blk off cap : Nat) (zs : List Int) (w : World) (hH : Holds (Value.int .i64) w blk off zs.toArray) (hblk : blk < w.heap.size) (hsz : zs.length < 4611686018427387904) :
    Calls Try.prog 53 #[.slice (some ⟨blk, off, none⟩) zs.length cap] w fun e w' =>
      e = .returned (.tuple #[]) ∧ ∃ n os, w' = grow (putRow (Value.int .i64) (Sort.ahead w n) blk off (zs.mergeSort fun x y => decide (x ≤ y)).toArray) os := Any.slices_Sort_int Try.lays189 blk off cap zs w hH hblk hsz
def Try.lays191_ren : Go.Shelf.Ren := ⟨fun | 191 => 45 | 189 => 53 | 125 => 64 | 257 => 63 | 128 => 77 | 129 => 78 | 294 => 68 | 295 => 69 | 296 => 70 | 297 => 71 | 298 => 72 | 299 => 73 | 216 => 74 | 300 => 75 | 301 => 76 | 328 => 88 | 329 => 89 | 330 => 90 | 331 => 91 | 332 => 92 | 215 => 93 | 343 => 97 | n => n, fun | 28 => 22 | 0 => 0 | 3 => 3 | 46 => 46 | 51 => 58 | 53 => 60 | 4 => 4 | 183 => 50 | 182 => 49 | 131 => 55 | 5 => 5 | 9 => 9 | 218 => 67 | 222 => 71 | 228 => 76 | 229 => 41 | n => n, fun | n => n⟩
theorem Try.lays191 : Go.Proofs.Lays.n191 Try.prog Try.lays191_ren := {
  mixed := by kernel_rfl
  f125 := Try.func64.trans (congrArg some (by kernel_rfl))
  f128 := Try.func77.trans (congrArg some (by kernel_rfl))
  f129 := Try.func78.trans (congrArg some (by kernel_rfl))
  f189 := Try.func53.trans (congrArg some (by kernel_rfl))
  f191 := Try.func45.trans (congrArg some (by kernel_rfl))
  f215 := Try.func93.trans (congrArg some (by kernel_rfl))
  f216 := Try.func74.trans (congrArg some (by kernel_rfl))
  f257 := Try.func63.trans (congrArg some (by kernel_rfl))
  f294 := Try.func68.trans (congrArg some (by kernel_rfl))
  f295 := Try.func69.trans (congrArg some (by kernel_rfl))
  f296 := Try.func70.trans (congrArg some (by kernel_rfl))
  f297 := Try.func71.trans (congrArg some (by kernel_rfl))
  f298 := Try.func72.trans (congrArg some (by kernel_rfl))
  f299 := Try.func73.trans (congrArg some (by kernel_rfl))
  f300 := Try.func75.trans (congrArg some (by kernel_rfl))
  f301 := Try.func76.trans (congrArg some (by kernel_rfl))
  f328 := Try.func88.trans (congrArg some (by kernel_rfl))
  f329 := Try.func89.trans (congrArg some (by kernel_rfl))
  f330 := Try.func90.trans (congrArg some (by kernel_rfl))
  f331 := Try.func91.trans (congrArg some (by kernel_rfl))
  f332 := Try.func92.trans (congrArg some (by kernel_rfl))
  f343 := Try.func97.trans (congrArg some (by kernel_rfl))
  t0 := Try.underlying0
  a0 := Try.isAgg0
  z0 := Try.sizeOf0
  v0 := Try.zeroValue0
  t3 := Try.underlying3
  a3 := Try.isAgg3
  z3 := Try.sizeOf3
  v3 := Try.zeroValue3
  t4 := Try.underlying4
  a4 := Try.isAgg4
  z4 := Try.sizeOf4
  v4 := Try.zeroValue4
  t5 := Try.underlying5
  a5 := Try.isAgg5
  z5 := Try.sizeOf5
  v5 := Try.zeroValue5
  t9 := Try.underlying9
  a9 := Try.isAgg9
  z9 := Try.sizeOf9
  v9 := Try.zeroValue9
  t28 := Try.underlying22
  a28 := Try.isAgg22
  z28 := Try.sizeOf22
  v28 := Try.zeroValue22
  t46 := Try.underlying46
  a46 := Try.isAgg46
  z46 := Try.sizeOf46
  v46 := Try.zeroValue46
  t51 := Try.underlying58
  a51 := Try.isAgg58
  z51 := Try.sizeOf58
  v51 := Try.zeroValue58
  t53 := Try.underlying60
  a53 := Try.isAgg60
  z53 := Try.sizeOf60
  v53 := Try.zeroValue60
  t131 := Try.underlying55
  a131 := Try.isAgg55
  z131 := Try.sizeOf55
  v131 := Try.zeroValue55
  t182 := Try.underlying49
  a182 := Try.isAgg49
  z182 := Try.sizeOf49
  v182 := Try.zeroValue49
  t183 := Try.underlying50
  a183 := Try.isAgg50
  z183 := Try.sizeOf50
  v183 := Try.zeroValue50
  t218 := Try.underlying67
  a218 := Try.isAgg67
  z218 := Try.sizeOf67
  v218 := Try.zeroValue67
  t222 := Try.underlying71
  a222 := Try.isAgg71
  z222 := Try.sizeOf71
  v222 := Try.zeroValue71
  t228 := Try.underlying76
  a228 := Try.isAgg76
  z228 := Try.sizeOf76
  v228 := Try.zeroValue76
  t229 := Try.underlying41
  a229 := Try.isAgg41
  z229 := Try.sizeOf41
  v229 := Try.zeroValue41 }
open Go.Sort Go.RowKit in
theorem Try.sort_Ints (blk off cap : Nat) (zs : List Int) (w : World) (hH : Holds (Value.int .i64) w blk off zs.toArray) (hblk : blk < w.heap.size) (hsz : zs.length < 4611686018427387904) :
    Calls Try.prog 45 #[.slice (some ⟨blk, off, none⟩) zs.length cap] w fun e w' =>
      e = .returned (.tuple #[]) ∧ ∃ n os, w' = grow (putRow (Value.int .i64) (Sort.ahead w n) blk off (zs.mergeSort fun x y => decide (x ≤ y)).toArray) os := Any.sort_Ints Try.lays191 blk off cap zs w hH hblk hsz
def Try.lays190_ren : Go.Shelf.Ren := ⟨fun | 190 => 54 | 125 => 64 | 258 => 65 | 128 => 77 | 129 => 78 | 302 => 79 | 303 => 80 | 304 => 81 | 305 => 82 | 306 => 83 | 307 => 84 | 308 => 67 | 309 => 85 | 310 => 86 | 333 => 94 | 329 => 89 | 330 => 90 | 334 => 95 | 335 => 96 | 336 => 87 | 344 => 98 | n => n, fun | 31 => 27 | 9 => 9 | 3 => 3 | 46 => 46 | 0 => 0 | 51 => 58 | 53 => 60 | 4 => 4 | 183 => 50 | 182 => 49 | 131 => 55 | 5 => 5 | 218 => 67 | 222 => 71 | 228 => 76 | 229 => 41 | n => n, fun | n => n⟩
theorem Try.lays190 : Go.Proofs.Lays.n190 Try.prog Try.lays190_ren := {
  mixed := by kernel_rfl
  f125 := Try.func64.trans (congrArg some (by kernel_rfl))
  f128 := Try.func77.trans (congrArg some (by kernel_rfl))
  f129 := Try.func78.trans (congrArg some (by kernel_rfl))
  f190 := Try.func54.trans (congrArg some (by kernel_rfl))
  f258 := Try.func65.trans (congrArg some (by kernel_rfl))
  f302 := Try.func79.trans (congrArg some (by kernel_rfl))
  f303 := Try.func80.trans (congrArg some (by kernel_rfl))
  f304 := Try.func81.trans (congrArg some (by kernel_rfl))
  f305 := Try.func82.trans (congrArg some (by kernel_rfl))
  f306 := Try.func83.trans (congrArg some (by kernel_rfl))
  f307 := Try.func84.trans (congrArg some (by kernel_rfl))
  f308 := Try.func67.trans (congrArg some (by kernel_rfl))
  f309 := Try.func85.trans (congrArg some (by kernel_rfl))
  f310 := Try.func86.trans (congrArg some (by kernel_rfl))
  f329 := Try.func89.trans (congrArg some (by kernel_rfl))
  f330 := Try.func90.trans (congrArg some (by kernel_rfl))
  f333 := Try.func94.trans (congrArg some (by kernel_rfl))
  f334 := Try.func95.trans (congrArg some (by kernel_rfl))
  f335 := Try.func96.trans (congrArg some (by kernel_rfl))
  f336 := Try.func87.trans (congrArg some (by kernel_rfl))
  f344 := Try.func98.trans (congrArg some (by kernel_rfl))
  t0 := Try.underlying0
  a0 := Try.isAgg0
  z0 := Try.sizeOf0
  v0 := Try.zeroValue0
  t3 := Try.underlying3
  a3 := Try.isAgg3
  z3 := Try.sizeOf3
  v3 := Try.zeroValue3
  t4 := Try.underlying4
  a4 := Try.isAgg4
  z4 := Try.sizeOf4
  v4 := Try.zeroValue4
  t5 := Try.underlying5
  a5 := Try.isAgg5
  z5 := Try.sizeOf5
  v5 := Try.zeroValue5
  t9 := Try.underlying9
  a9 := Try.isAgg9
  z9 := Try.sizeOf9
  v9 := Try.zeroValue9
  t31 := Try.underlying27
  a31 := Try.isAgg27
  z31 := Try.sizeOf27
  v31 := Try.zeroValue27
  t46 := Try.underlying46
  a46 := Try.isAgg46
  z46 := Try.sizeOf46
  v46 := Try.zeroValue46
  t51 := Try.underlying58
  a51 := Try.isAgg58
  z51 := Try.sizeOf58
  v51 := Try.zeroValue58
  t53 := Try.underlying60
  a53 := Try.isAgg60
  z53 := Try.sizeOf60
  v53 := Try.zeroValue60
  t131 := Try.underlying55
  a131 := Try.isAgg55
  z131 := Try.sizeOf55
  v131 := Try.zeroValue55
  t182 := Try.underlying49
  a182 := Try.isAgg49
  z182 := Try.sizeOf49
  v182 := Try.zeroValue49
  t183 := Try.underlying50
  a183 := Try.isAgg50
  z183 := Try.sizeOf50
  v183 := Try.zeroValue50
  t218 := Try.underlying67
  a218 := Try.isAgg67
  z218 := Try.sizeOf67
  v218 := Try.zeroValue67
  t222 := Try.underlying71
  a222 := Try.isAgg71
  z222 := Try.sizeOf71
  v222 := Try.zeroValue71
  t228 := Try.underlying76
  a228 := Try.isAgg76
  z228 := Try.sizeOf76
  v228 := Try.zeroValue76
  t229 := Try.underlying41
  a229 := Try.isAgg41
  z229 := Try.sizeOf41
  v229 := Try.zeroValue41 }
open Go.Sort Go.RowKit in
theorem Try.slices_Sort_string (blk off cap : Nat) (ss : List (List UInt8)) (w : World) (hH : Holds encStr w blk off ss.toArray) (hblk : blk < w.heap.size) (hsz : ss.length < 4611686018427387904) :
    Calls Try.prog 54 #[.slice (some ⟨blk, off, none⟩) ss.length cap] w fun e w' =>
      e = .returned (.tuple #[]) ∧ ∃ n os, w' = grow (putRow encStr (Sort.ahead w n) blk off (ss.mergeSort fun x y => decide (x ≤ y)).toArray) os := Any.slices_Sort_string Try.lays190 blk off cap ss w hH hblk hsz
def Try.lays192_ren : Go.Shelf.Ren := ⟨fun | 192 => 48 | 190 => 54 | 125 => 64 | 258 => 65 | 128 => 77 | 129 => 78 | 302 => 79 | 303 => 80 | 304 => 81 | 305 => 82 | 306 => 83 | 307 => 84 | 308 => 67 | 309 => 85 | 310 => 86 | 333 => 94 | 329 => 89 | 330 => 90 | 334 => 95 | 335 => 96 | 336 => 87 | 344 => 98 | n => n, fun | 31 => 27 | 0 => 0 | 9 => 9 | 3 => 3 | 46 => 46 | 51 => 58 | 53 => 60 | 4 => 4 | 183 => 50 | 182 => 49 | 131 => 55 | 5 => 5 | 218 => 67 | 222 => 71 | 228 => 76 | 229 => 41 | n => n, fun | n => n⟩
theorem Try.lays192 : Go.Proofs.Lays.n192 Try.prog Try.lays192_ren := {
  mixed := by kernel_rfl
  f125 := Try.func64.trans (congrArg some (by kernel_rfl))
  f128 := Try.func77.trans (congrArg some (by kernel_rfl))
  f129 := Try.func78.trans (congrArg some (by kernel_rfl))
  f190 := Try.func54.trans (congrArg some (by kernel_rfl))
  f192 := Try.func48.trans (congrArg some (by kernel_rfl))
  f258 := Try.func65.trans (congrArg some (by kernel_rfl))
  f302 := Try.func79.trans (congrArg some (by kernel_rfl))
  f303 := Try.func80.trans (congrArg some (by kernel_rfl))
  f304 := Try.func81.trans (congrArg some (by kernel_rfl))
  f305 := Try.func82.trans (congrArg some (by kernel_rfl))
  f306 := Try.func83.trans (congrArg some (by kernel_rfl))
  f307 := Try.func84.trans (congrArg some (by kernel_rfl))
  f308 := Try.func67.trans (congrArg some (by kernel_rfl))
  f309 := Try.func85.trans (congrArg some (by kernel_rfl))
  f310 := Try.func86.trans (congrArg some (by kernel_rfl))
  f329 := Try.func89.trans (congrArg some (by kernel_rfl))
  f330 := Try.func90.trans (congrArg some (by kernel_rfl))
  f333 := Try.func94.trans (congrArg some (by kernel_rfl))
  f334 := Try.func95.trans (congrArg some (by kernel_rfl))
  f335 := Try.func96.trans (congrArg some (by kernel_rfl))
  f336 := Try.func87.trans (congrArg some (by kernel_rfl))
  f344 := Try.func98.trans (congrArg some (by kernel_rfl))
  t0 := Try.underlying0
  a0 := Try.isAgg0
  z0 := Try.sizeOf0
  v0 := Try.zeroValue0
  t3 := Try.underlying3
  a3 := Try.isAgg3
  z3 := Try.sizeOf3
  v3 := Try.zeroValue3
  t4 := Try.underlying4
  a4 := Try.isAgg4
  z4 := Try.sizeOf4
  v4 := Try.zeroValue4
  t5 := Try.underlying5
  a5 := Try.isAgg5
  z5 := Try.sizeOf5
  v5 := Try.zeroValue5
  t9 := Try.underlying9
  a9 := Try.isAgg9
  z9 := Try.sizeOf9
  v9 := Try.zeroValue9
  t31 := Try.underlying27
  a31 := Try.isAgg27
  z31 := Try.sizeOf27
  v31 := Try.zeroValue27
  t46 := Try.underlying46
  a46 := Try.isAgg46
  z46 := Try.sizeOf46
  v46 := Try.zeroValue46
  t51 := Try.underlying58
  a51 := Try.isAgg58
  z51 := Try.sizeOf58
  v51 := Try.zeroValue58
  t53 := Try.underlying60
  a53 := Try.isAgg60
  z53 := Try.sizeOf60
  v53 := Try.zeroValue60
  t131 := Try.underlying55
  a131 := Try.isAgg55
  z131 := Try.sizeOf55
  v131 := Try.zeroValue55
  t182 := Try.underlying49
  a182 := Try.isAgg49
  z182 := Try.sizeOf49
  v182 := Try.zeroValue49
  t183 := Try.underlying50
  a183 := Try.isAgg50
  z183 := Try.sizeOf50
  v183 := Try.zeroValue50
  t218 := Try.underlying67
  a218 := Try.isAgg67
  z218 := Try.sizeOf67
  v218 := Try.zeroValue67
  t222 := Try.underlying71
  a222 := Try.isAgg71
  z222 := Try.sizeOf71
  v222 := Try.zeroValue71
  t228 := Try.underlying76
  a228 := Try.isAgg76
  z228 := Try.sizeOf76
  v228 := Try.zeroValue76
  t229 := Try.underlying41
  a229 := Try.isAgg41
  z229 := Try.sizeOf41
  v229 := Try.zeroValue41 }
open Go.Sort Go.RowKit in
theorem Try.sort_Strings (blk off cap : Nat) (ss : List (List UInt8)) (w : World) (hH : Holds encStr w blk off ss.toArray) (hblk : blk < w.heap.size) (hsz : ss.length < 4611686018427387904) :
    Calls Try.prog 48 #[.slice (some ⟨blk, off, none⟩) ss.length cap] w fun e w' =>
      e = .returned (.tuple #[]) ∧ ∃ n os, w' = grow (putRow encStr (Sort.ahead w n) blk off (ss.mergeSort fun x y => decide (x ≤ y)).toArray) os := Any.sort_Strings Try.lays192 blk off cap ss w hH hblk hsz
def Try.lays112_ren : Go.Shelf.Ren := ⟨fun | 112 => 59 | n => n, fun | 28 => 22 | 3 => 3 | 4 => 4 | 0 => 0 | n => n, fun | n => n⟩
theorem Try.lays112 : Go.Proofs.Lays.n112 Try.prog Try.lays112_ren := {
  mixed := by kernel_rfl
  f112 := Try.func59.trans (congrArg some (by kernel_rfl))
  t0 := Try.underlying0
  a0 := Try.isAgg0
  z0 := Try.sizeOf0
  v0 := Try.zeroValue0
  t3 := Try.underlying3
  a3 := Try.isAgg3
  z3 := Try.sizeOf3
  v3 := Try.zeroValue3
  t4 := Try.underlying4
  a4 := Try.isAgg4
  z4 := Try.sizeOf4
  v4 := Try.zeroValue4
  t28 := Try.underlying22
  a28 := Try.isAgg22
  z28 := Try.sizeOf22
  v28 := Try.zeroValue22 }
open Go.RowKit Go.Lib Go.Sort in
theorem Try.slices_Reverse_int_arr (blk off cap : Nat) (d : Array Int) (w : World) (hH : Holds encI w blk off d) (hsz : d.size ≤ 9223372036854775807) :
    Calls Try.prog 59 #[.slice (some ⟨blk, off, none⟩) d.size cap] w fun e w' => e = .returned (.tuple #[]) ∧ ∃ n, w' = putRow encI (Sort.ahead w n) blk off d.reverse := Any.slices_Reverse_int_arr Try.lays112 blk off cap d w hH hsz
open Go.RowKit Go.Lib Go.Sort in
theorem Try.slices_Reverse_int (blk off cap : Nat) (zs : List Int) (w : World) (hH : Holds (Value.int .i64) w blk off zs.toArray) (hsz : zs.length ≤ 9223372036854775807) :
    Calls Try.prog 59 #[.slice (some ⟨blk, off, none⟩) zs.length cap] w fun e w' => e = .returned (.tuple #[]) ∧ ∃ n, w' = putRow (Value.int .i64) (Sort.ahead w n) blk off zs.reverse.toArray := Any.slices_Reverse_int Try.lays112 blk off cap zs w hH hsz
open Go.RowKit Go.Lib Go.Sort in
theorem Try.slices_Reverse_int_empty (a : Option Addr) (cap : Nat) (w : World) :
    Calls Try.prog 59 #[.slice a 0 cap] w fun e w' => e = .returned (.tuple #[]) ∧ w' = w := Any.slices_Reverse_int_empty Try.lays112 a cap w
def Try.laysNm220_ren : Go.Shelf.Ren := ⟨fun | 20 => 60 | n => n, fun | 22 => 22 | 3 => 3 | 4 => 4 | 0 => 0 | n => n, fun | n => n⟩
theorem Try.laysNm220 : Go.Proofs.Lays2.n20 Try.prog Try.laysNm220_ren := {
  mixed := by kernel_rfl
  f20 := Try.func60.trans (congrArg some (by kernel_rfl))
  t0 := Try.underlying0
  a0 := Try.isAgg0
  z0 := Try.sizeOf0
  v0 := Try.zeroValue0
  t3 := Try.underlying3
  a3 := Try.isAgg3
  z3 := Try.sizeOf3
  v3 := Try.zeroValue3
  t4 := Try.underlying4
  a4 := Try.isAgg4
  z4 := Try.sizeOf4
  v4 := Try.zeroValue4
  t22 := Try.underlying22
  a22 := Try.isAgg22
  z22 := Try.sizeOf22
  v22 := Try.zeroValue22
  i3 := by kernel_rfl }
open Go.RowKit Go.Lib Go.Sort in
theorem Try.slices_Compact_int_arr (blk off cap : Nat) (d : Array Int) (w : World) (hH : Holds encI w blk off d) (hsz : d.size ≤ 9223372036854775807) (hcap : d.size ≤ cap) :
    Calls Try.prog 60 #[.slice (some ⟨blk, off, none⟩) d.size cap] w fun e w' => e = .returned (.slice (some ⟨blk, off, none⟩) (compactUpTo d d.size).length cap) ∧ ∃ q, w' = putRow encI (Sort.ahead w q) blk off (compactUpTo d d.size ++ List.replicate (d.size - (compactUpTo d d.size).length) 0).toArray := Any.slices_Compact_int_arr Try.laysNm220 blk off cap d w hH hsz hcap
open Go.RowKit Go.Lib Go.Sort in
theorem Try.slices_Compact_int (blk off cap : Nat) (zs : List Int) (w : World) (hH : Holds (Value.int .i64) w blk off zs.toArray) (hsz : zs.length ≤ 9223372036854775807) (hcap : zs.length ≤ cap) :
    Calls Try.prog 60 #[.slice (some ⟨blk, off, none⟩) zs.length cap] w fun e w' => e = .returned (.slice (some ⟨blk, off, none⟩) (Lib.compact zs).length cap) ∧ ∃ q, w' = putRow (Value.int .i64) (Sort.ahead w q) blk off (Lib.compact zs ++ List.replicate (zs.length - (Lib.compact zs).length) 0).toArray := Any.slices_Compact_int Try.laysNm220 blk off cap zs w hH hsz hcap
open Go.RowKit Go.Lib Go.Sort in
theorem Try.slices_Compact_int_empty (a : Option Addr) (cap : Nat) (w : World) :
    Calls Try.prog 60 #[.slice a 0 cap] w fun e w' => e = .returned (.slice a 0 cap) ∧ w' = w := Any.slices_Compact_int_empty Try.laysNm220 a cap w
def Try.lays194_ren : Go.Shelf.Ren := ⟨fun | 194 => 58 | n => n, fun | 31 => 27 | 9 => 9 | 3 => 3 | 4 => 4 | 0 => 0 | n => n, fun | n => n⟩
theorem Try.lays194 : Go.Proofs.Lays.n194 Try.prog Try.lays194_ren := {
  mixed := by kernel_rfl
  f194 := Try.func58.trans (congrArg some (by kernel_rfl))
  t0 := Try.underlying0
  a0 := Try.isAgg0
  z0 := Try.sizeOf0
  v0 := Try.zeroValue0
  t3 := Try.underlying3
  a3 := Try.isAgg3
  z3 := Try.sizeOf3
  v3 := Try.zeroValue3
  t4 := Try.underlying4
  a4 := Try.isAgg4
  z4 := Try.sizeOf4
  v4 := Try.zeroValue4
  t9 := Try.underlying9
  a9 := Try.isAgg9
  z9 := Try.sizeOf9
  v9 := Try.zeroValue9
  t31 := Try.underlying27
  a31 := Try.isAgg27
  z31 := Try.sizeOf27
  v31 := Try.zeroValue27 }
open Go.RowKit Go.Lib Go.Sort in
theorem Try.slices_Compact_string_arr (blk off cap : Nat) (d : Array (List UInt8)) (w : World) (hH : Holds encStr w blk off d) (hsz : d.size ≤ 9223372036854775807) (hcap : d.size ≤ cap) :
    Calls Try.prog 58 #[.slice (some ⟨blk, off, none⟩) d.size cap] w fun e w' => e = .returned (.slice (some ⟨blk, off, none⟩) (compactUpTo d d.size).length cap) ∧ ∃ q, w' = putRow encStr (Sort.ahead w q) blk off (compactUpTo d d.size ++ List.replicate (d.size - (compactUpTo d d.size).length) []).toArray := Any.slices_Compact_string_arr Try.lays194 blk off cap d w hH hsz hcap
open Go.RowKit Go.Lib Go.Sort in
theorem Try.slices_Compact_string (blk off cap : Nat) (zs : List (List UInt8)) (w : World) (hH : Holds encStr w blk off zs.toArray) (hsz : zs.length ≤ 9223372036854775807) (hcap : zs.length ≤ cap) :
    Calls Try.prog 58 #[.slice (some ⟨blk, off, none⟩) zs.length cap] w fun e w' => e = .returned (.slice (some ⟨blk, off, none⟩) (Lib.compact zs).length cap) ∧ ∃ q, w' = putRow encStr (Sort.ahead w q) blk off (Lib.compact zs ++ List.replicate (zs.length - (Lib.compact zs).length) []).toArray := Any.slices_Compact_string Try.lays194 blk off cap zs w hH hsz hcap
open Go.RowKit Go.Lib Go.Sort in
theorem Try.slices_Compact_string_empty (a : Option Addr) (cap : Nat) (w : World) :
    Calls Try.prog 58 #[.slice a 0 cap] w fun e w' => e = .returned (.slice a 0 cap) ∧ w' = w := Any.slices_Compact_string_empty Try.lays194 a cap w
def Try.laysNm237_ren : Go.Shelf.Ren := ⟨fun | 37 => 93 | n => n, fun | 3 => 3 | 4 => 4 | n => n, fun | n => n⟩
theorem Try.laysNm237 : Go.Proofs.Lays2.n37 Try.prog Try.laysNm237_ren := {
  mixed := by kernel_rfl
  f37 := Try.func93.trans (congrArg some (by kernel_rfl))
  t3 := Try.underlying3
  a3 := Try.isAgg3
  z3 := Try.sizeOf3
  v3 := Try.zeroValue3
  t4 := Try.underlying4
  a4 := Try.isAgg4
  z4 := Try.sizeOf4
  v4 := Try.zeroValue4 }
open Go.RowKit Go.Lib in
theorem Try.cmp_isNaN_int2 (x : Int) (w : World) :
    Calls Try.prog 93 #[.int .i64 x] w fun e w' => e = .returned (.bool false) ∧ w' = w := Any.cmp_isNaN_int2 Try.laysNm237 x w
def Try.laysNm231_ren : Go.Shelf.Ren := ⟨fun | 31 => 74 | 37 => 93 | n => n, fun | 3 => 3 | 4 => 4 | n => n, fun | n => n⟩
theorem Try.laysNm231 : Go.Proofs.Lays2.n31 Try.prog Try.laysNm231_ren := {
  mixed := by kernel_rfl
  f31 := Try.func74.trans (congrArg some (by kernel_rfl))
  f37 := Try.func93.trans (congrArg some (by kernel_rfl))
  t3 := Try.underlying3
  a3 := Try.isAgg3
  z3 := Try.sizeOf3
  v3 := Try.zeroValue3
  t4 := Try.underlying4
  a4 := Try.isAgg4
  z4 := Try.sizeOf4
  v4 := Try.zeroValue4 }
open Go.RowKit Go.Lib in
theorem Try.cmp_Less_int2 (x y : Int) (w : World) :
    Calls Try.prog 74 #[.int .i64 x, .int .i64 y] w fun e w' => e = .returned (.bool (decide (x < y))) ∧ w' = w := Any.cmp_Less_int2 Try.laysNm231 x y w
open Go.RowKit Go.Lib Go.Sort in
theorem Try.slices_Reverse_int_cells (b off n c : Nat) (zs : List Int) (w : World) (hz : n ≤ zs.length) (hbig : n ≤ 9223372036854775807) (hc : ∀ j, j < zs.length → w.cell? ⟨b, off + j, none⟩ = some (.int .i64 (zs.getD j 0))) (hf : ∀ j, j < n → w.frozen? ⟨b, off + j, none⟩ = false) :
    Calls Try.prog 59 #[.slice (some ⟨b, off, none⟩) n c] w fun e w' => e = .returned (.tuple #[]) ∧ ∃ q, w' = (w.drewN q).setCells b off ((zs.take n).reverse.map (Value.int .i64)) := Any.slices_Reverse_int_cells Try.lays112 b off n c zs w hz hbig hc hf
open Go.RowKit Go.Lib Go.Sort in
theorem Try.slices_Compact_int_cells (b off n c : Nat) (zs : List Int) (w : World) (hz : n ≤ zs.length) (hbig : n ≤ 9223372036854775807) (hcap : n ≤ c) (hc : ∀ j, j < zs.length → w.cell? ⟨b, off + j, none⟩ = some (.int .i64 (zs.getD j 0))) (hf : ∀ j, j < n → w.frozen? ⟨b, off + j, none⟩ = false) :
    Calls Try.prog 60 #[.slice (some ⟨b, off, none⟩) n c] w fun e w' => e = .returned (.slice (some ⟨b, off, none⟩) (Lib.compact (zs.take n)).length c) ∧ ∃ q, w' = (w.drewN q).setCells b off ((Lib.compact (zs.take n) ++ List.replicate (n - (Lib.compact (zs.take n)).length) 0).map (Value.int .i64)) := Any.slices_Compact_int_cells Try.laysNm220 b off n c zs w hz hbig hcap hc hf
open Go.RowKit Go.Lib Go.Sort in
theorem Try.slices_Compact_string_cells (b off n c : Nat) (Sx : Nat → ByteArray) (w : World) (hbig : n ≤ 9223372036854775807) (hcap : n ≤ c) (hc : ∀ i, i < n → w.cell? ⟨b, off + i, none⟩ = some (.string (Sx i))) (hf : ∀ j, j < n → w.frozen? ⟨b, off + j, none⟩ = false) :
    Calls Try.prog 58 #[.slice (some ⟨b, off, none⟩) n c] w fun e w' => e = .returned (.slice (some ⟨b, off, none⟩) (Lib.compact (Lib.strsOf Sx n)).length c) ∧ ∃ q, w' = (w.drewN q).setCells b off ((Lib.compact (Lib.strsOf Sx n) ++ List.replicate (n - (Lib.compact (Lib.strsOf Sx n)).length) []).map encStr) := Any.slices_Compact_string_cells Try.lays194 b off n c Sx w hbig hcap hc hf
open Go.RowKit Go.Sort in
theorem Try.slices_Sort_string_none (p : Option Addr) (cap : Nat) (w : World) :
    Calls Try.prog 54 #[.slice p 0 cap] w fun e w' => e = .returned (.tuple #[]) ∧ w' = w := Any.slices_Sort_string_none Try.lays190 p cap w
open Go.RowKit Go.Sort in
theorem Try.slices_Sort_int_none (p : Option Addr) (cap : Nat) (w : World) :
    Calls Try.prog 53 #[.slice p 0 cap] w fun e w' => e = .returned (.tuple #[]) ∧ w' = w := Any.slices_Sort_int_none Try.lays189 p cap w
open Go.RowKit Go.Sort in
theorem Try.sort_Strings_none (p : Option Addr) (cap : Nat) (w : World) :
    Calls Try.prog 48 #[.slice p 0 cap] w fun e w' => e = .returned (.tuple #[]) ∧ w' = w := Any.sort_Strings_none Try.lays192 p cap w
open Go.RowKit Go.Sort in
theorem Try.sort_Ints_none (p : Option Addr) (cap : Nat) (w : World) :
    Calls Try.prog 45 #[.slice p 0 cap] w fun e w' => e = .returned (.tuple #[]) ∧ w' = w := Any.sort_Ints_none Try.lays191 p cap w
end Go.Proofs
