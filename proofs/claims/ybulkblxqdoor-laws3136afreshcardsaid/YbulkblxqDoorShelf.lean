import Derived.Shelf.Small.Bits
import Derived.Shelf.Small.Wraps
import Derived.Shelf.Strconv.Itoa0
import Derived.Shelf.Sort.Plain
import Derived.Ground.Names2Prog
import Derived.Shelf.Slices.SearchI
import Derived.Shelf.Slices.In.SortNone
import Derived.Shelf.Slices.Empties
import Derived.Test.YbulkblxqDoorProg
namespace Go.Proofs
open Go.Shelf
def Ybad.lays128_ren : Go.Shelf.Ren := ⟨fun | 128 => 38 | n => n, fun | 51 => 43 | 3 => 3 | 4 => 4 | 46 => 111 | 5 => 5 | 9 => 9 | n => n, fun | n => n⟩
theorem Ybad.lays128 : Go.Proofs.Lays.n128 Ybad.prog Ybad.lays128_ren := {
  mixed := by kernel_rfl
  f128 := Ybad.func38.trans (congrArg some (by kernel_rfl))
  t3 := Ybad.underlying3
  a3 := Ybad.isAgg3
  z3 := Ybad.sizeOf3
  v3 := Ybad.zeroValue3
  t4 := Ybad.underlying4
  a4 := Ybad.isAgg4
  z4 := Ybad.sizeOf4
  v4 := Ybad.zeroValue4
  t5 := Ybad.underlying5
  a5 := Ybad.isAgg5
  z5 := Ybad.sizeOf5
  v5 := Ybad.zeroValue5
  t9 := Ybad.underlying9
  a9 := Ybad.isAgg9
  z9 := Ybad.sizeOf9
  v9 := Ybad.zeroValue9
  t46 := Ybad.underlying111
  a46 := Ybad.isAgg111
  z46 := Ybad.sizeOf111
  v46 := Ybad.zeroValue111
  t51 := Ybad.underlying43
  a51 := Ybad.isAgg43
  z51 := Ybad.sizeOf43
  v51 := Ybad.zeroValue43 }
theorem Ybad.bits_Len32 (x : Int) (w : World) (h0 : 0 ≤ x) (h1 : x ≤ 4294967295) :
    Calls Ybad.prog 38 #[.int .u32 x] w fun e w' => e = .returned (.int .i64 (Lib.bitLen x.toNat)) ∧ w' = w := Any.bits_Len32 Ybad.lays128 x w h0 h1
def Ybad.lays125_ren : Go.Shelf.Ren := ⟨fun | 125 => 22 | 128 => 38 | 129 => 39 | n => n, fun | 46 => 111 | 3 => 3 | 51 => 43 | 53 => 22 | 4 => 4 | 5 => 5 | 9 => 9 | n => n, fun | n => n⟩
theorem Ybad.lays125 : Go.Proofs.Lays.n125 Ybad.prog Ybad.lays125_ren := {
  mixed := by kernel_rfl
  f125 := Ybad.func22.trans (congrArg some (by kernel_rfl))
  f128 := Ybad.func38.trans (congrArg some (by kernel_rfl))
  f129 := Ybad.func39.trans (congrArg some (by kernel_rfl))
  t3 := Ybad.underlying3
  a3 := Ybad.isAgg3
  z3 := Ybad.sizeOf3
  v3 := Ybad.zeroValue3
  t4 := Ybad.underlying4
  a4 := Ybad.isAgg4
  z4 := Ybad.sizeOf4
  v4 := Ybad.zeroValue4
  t5 := Ybad.underlying5
  a5 := Ybad.isAgg5
  z5 := Ybad.sizeOf5
  v5 := Ybad.zeroValue5
  t9 := Ybad.underlying9
  a9 := Ybad.isAgg9
  z9 := Ybad.sizeOf9
  v9 := Ybad.zeroValue9
  t46 := Ybad.underlying111
  a46 := Ybad.isAgg111
  z46 := Ybad.sizeOf111
  v46 := Ybad.zeroValue111
  t51 := Ybad.underlying43
  a51 := Ybad.isAgg43
  z51 := Ybad.sizeOf43
  v51 := Ybad.zeroValue43
  t53 := Ybad.underlying22
  a53 := Ybad.isAgg22
  z53 := Ybad.sizeOf22
  v53 := Ybad.zeroValue22 }
theorem Ybad.bits_Len (x : Int) (w : World) (h0 : 0 ≤ x) (h1 : x ≤ 18446744073709551615) :
    Calls Ybad.prog 22 #[.int .u64 x] w fun e w' => e = .returned (.int .i64 (Lib.bitLen x.toNat)) ∧ w' = w := Any.bits_Len Ybad.lays125 x w h0 h1
def Ybad.lays215_ren : Go.Shelf.Ren := ⟨fun | 215 => 55 | n => n, fun | 3 => 3 | 4 => 4 | n => n, fun | n => n⟩
theorem Ybad.lays215 : Go.Proofs.Lays.n215 Ybad.prog Ybad.lays215_ren := {
  mixed := by kernel_rfl
  f215 := Ybad.func55.trans (congrArg some (by kernel_rfl))
  t3 := Ybad.underlying3
  a3 := Ybad.isAgg3
  z3 := Ybad.sizeOf3
  v3 := Ybad.zeroValue3
  t4 := Ybad.underlying4
  a4 := Ybad.isAgg4
  z4 := Ybad.sizeOf4
  v4 := Ybad.zeroValue4 }
open Go.RowKit in
theorem Ybad.cmp_isNaN_int (x : Int) (w : World) :
    Calls Ybad.prog 55 #[.int .i64 x] w fun e w' => e = .returned (.bool false) ∧ w' = w := Any.cmp_isNaN_int Ybad.lays215 x w
def Ybad.lays129_ren : Go.Shelf.Ren := ⟨fun | 129 => 39 | n => n, fun | 53 => 22 | 3 => 3 | 4 => 4 | 46 => 111 | 5 => 5 | 9 => 9 | n => n, fun | n => n⟩
theorem Ybad.lays129 : Go.Proofs.Lays.n129 Ybad.prog Ybad.lays129_ren := {
  mixed := by kernel_rfl
  f129 := Ybad.func39.trans (congrArg some (by kernel_rfl))
  t3 := Ybad.underlying3
  a3 := Ybad.isAgg3
  z3 := Ybad.sizeOf3
  v3 := Ybad.zeroValue3
  t4 := Ybad.underlying4
  a4 := Ybad.isAgg4
  z4 := Ybad.sizeOf4
  v4 := Ybad.zeroValue4
  t5 := Ybad.underlying5
  a5 := Ybad.isAgg5
  z5 := Ybad.sizeOf5
  v5 := Ybad.zeroValue5
  t9 := Ybad.underlying9
  a9 := Ybad.isAgg9
  z9 := Ybad.sizeOf9
  v9 := Ybad.zeroValue9
  t46 := Ybad.underlying111
  a46 := Ybad.isAgg111
  z46 := Ybad.sizeOf111
  v46 := Ybad.zeroValue111
  t53 := Ybad.underlying22
  a53 := Ybad.isAgg22
  z53 := Ybad.sizeOf22
  v53 := Ybad.zeroValue22 }
theorem Ybad.bits_Len64 (x : Int) (w : World) (h0 : 0 ≤ x) (h1 : x ≤ 18446744073709551615) :
    Calls Ybad.prog 39 #[.int .u64 x] w fun e w' => e = .returned (.int .i64 (Lib.bitLen x.toNat)) ∧ w' = w := Any.bits_Len64 Ybad.lays129 x w h0 h1
def Ybad.lays189_ren : Go.Shelf.Ren := ⟨fun | 189 => 11 | 125 => 22 | 257 => 21 | 128 => 38 | 129 => 39 | 294 => 29 | 295 => 30 | 296 => 31 | 297 => 32 | 298 => 33 | 299 => 34 | 216 => 35 | 300 => 36 | 301 => 37 | 328 => 50 | 329 => 51 | 330 => 52 | 331 => 53 | 332 => 54 | 215 => 55 | 343 => 61 | n => n, fun | 28 => 35 | 3 => 3 | 46 => 111 | 0 => 0 | 51 => 43 | 53 => 22 | 4 => 4 | 183 => 119 | 182 => 118 | 131 => 63 | 5 => 5 | 9 => 9 | 218 => 133 | 222 => 137 | 228 => 144 | 229 => 145 | n => n, fun | n => n⟩
theorem Ybad.lays189 : Go.Proofs.Lays.n189 Ybad.prog Ybad.lays189_ren := {
  mixed := by kernel_rfl
  f125 := Ybad.func22.trans (congrArg some (by kernel_rfl))
  f128 := Ybad.func38.trans (congrArg some (by kernel_rfl))
  f129 := Ybad.func39.trans (congrArg some (by kernel_rfl))
  f189 := Ybad.func11.trans (congrArg some (by kernel_rfl))
  f215 := Ybad.func55.trans (congrArg some (by kernel_rfl))
  f216 := Ybad.func35.trans (congrArg some (by kernel_rfl))
  f257 := Ybad.func21.trans (congrArg some (by kernel_rfl))
  f294 := Ybad.func29.trans (congrArg some (by kernel_rfl))
  f295 := Ybad.func30.trans (congrArg some (by kernel_rfl))
  f296 := Ybad.func31.trans (congrArg some (by kernel_rfl))
  f297 := Ybad.func32.trans (congrArg some (by kernel_rfl))
  f298 := Ybad.func33.trans (congrArg some (by kernel_rfl))
  f299 := Ybad.func34.trans (congrArg some (by kernel_rfl))
  f300 := Ybad.func36.trans (congrArg some (by kernel_rfl))
  f301 := Ybad.func37.trans (congrArg some (by kernel_rfl))
  f328 := Ybad.func50.trans (congrArg some (by kernel_rfl))
  f329 := Ybad.func51.trans (congrArg some (by kernel_rfl))
  f330 := Ybad.func52.trans (congrArg some (by kernel_rfl))
  f331 := Ybad.func53.trans (congrArg some (by kernel_rfl))
  f332 := Ybad.func54.trans (congrArg some (by kernel_rfl))
  f343 := Ybad.func61.trans (congrArg some (by kernel_rfl))
  t0 := Ybad.underlying0
  a0 := Ybad.isAgg0
  z0 := Ybad.sizeOf0
  v0 := Ybad.zeroValue0
  t3 := Ybad.underlying3
  a3 := Ybad.isAgg3
  z3 := Ybad.sizeOf3
  v3 := Ybad.zeroValue3
  t4 := Ybad.underlying4
  a4 := Ybad.isAgg4
  z4 := Ybad.sizeOf4
  v4 := Ybad.zeroValue4
  t5 := Ybad.underlying5
  a5 := Ybad.isAgg5
  z5 := Ybad.sizeOf5
  v5 := Ybad.zeroValue5
  t9 := Ybad.underlying9
  a9 := Ybad.isAgg9
  z9 := Ybad.sizeOf9
  v9 := Ybad.zeroValue9
  t28 := Ybad.underlying35
  a28 := Ybad.isAgg35
  z28 := Ybad.sizeOf35
  v28 := Ybad.zeroValue35
  t46 := Ybad.underlying111
  a46 := Ybad.isAgg111
  z46 := Ybad.sizeOf111
  v46 := Ybad.zeroValue111
  t51 := Ybad.underlying43
  a51 := Ybad.isAgg43
  z51 := Ybad.sizeOf43
  v51 := Ybad.zeroValue43
  t53 := Ybad.underlying22
  a53 := Ybad.isAgg22
  z53 := Ybad.sizeOf22
  v53 := Ybad.zeroValue22
  t131 := Ybad.underlying63
  a131 := Ybad.isAgg63
  z131 := Ybad.sizeOf63
  v131 := Ybad.zeroValue63
  t182 := Ybad.underlying118
  a182 := Ybad.isAgg118
  z182 := Ybad.sizeOf118
  v182 := Ybad.zeroValue118
  t183 := Ybad.underlying119
  a183 := Ybad.isAgg119
  z183 := Ybad.sizeOf119
  v183 := Ybad.zeroValue119
  t218 := Ybad.underlying133
  a218 := Ybad.isAgg133
  z218 := Ybad.sizeOf133
  v218 := Ybad.zeroValue133
  t222 := Ybad.underlying137
  a222 := Ybad.isAgg137
  z222 := Ybad.sizeOf137
  v222 := Ybad.zeroValue137
  t228 := Ybad.underlying144
  a228 := Ybad.isAgg144
  z228 := Ybad.sizeOf144
  v228 := Ybad.zeroValue144
  t229 := Ybad.underlying145
  a229 := Ybad.isAgg145
  z229 := Ybad.sizeOf145
  v229 := Ybad.zeroValue145 }
open Go.Sort Go.RowKit in
theorem Ybad.slices_Sort_int (blk off cap : Nat) (zs : List Int) (w : World) (hH : Holds (Value.int .i64) w blk off zs.toArray) (hblk : blk < w.heap.size) (hsz : zs.length < 4611686018427387904) :
    Calls Ybad.prog 11 #[.slice (some ⟨blk, off, none⟩) zs.length cap] w fun e w' =>
      e = .returned (.tuple #[]) ∧ ∃ n os, w' = grow (putRow (Value.int .i64) (Sort.ahead w n) blk off (zs.mergeSort fun x y => decide (x ≤ y)).toArray) os := Any.slices_Sort_int Ybad.lays189 blk off cap zs w hH hblk hsz
def Ybad.laysNm237_ren : Go.Shelf.Ren := ⟨fun | 37 => 55 | n => n, fun | 3 => 3 | 4 => 4 | n => n, fun | n => n⟩
theorem Ybad.laysNm237 : Go.Proofs.Lays2.n37 Ybad.prog Ybad.laysNm237_ren := {
  mixed := by kernel_rfl
  f37 := Ybad.func55.trans (congrArg some (by kernel_rfl))
  t3 := Ybad.underlying3
  a3 := Ybad.isAgg3
  z3 := Ybad.sizeOf3
  v3 := Ybad.zeroValue3
  t4 := Ybad.underlying4
  a4 := Ybad.isAgg4
  z4 := Ybad.sizeOf4
  v4 := Ybad.zeroValue4 }
open Go.RowKit Go.Lib in
theorem Ybad.cmp_isNaN_int2 (x : Int) (w : World) :
    Calls Ybad.prog 55 #[.int .i64 x] w fun e w' => e = .returned (.bool false) ∧ w' = w := Any.cmp_isNaN_int2 Ybad.laysNm237 x w
def Ybad.laysNm232_ren : Go.Shelf.Ren := ⟨fun | 32 => 62 | n => n, fun | 3 => 3 | 4 => 4 | n => n, fun | n => n⟩
theorem Ybad.laysNm232 : Go.Proofs.Lays2.n32 Ybad.prog Ybad.laysNm232_ren := {
  mixed := by kernel_rfl
  f32 := Ybad.func62.trans (congrArg some (by kernel_rfl))
  t3 := Ybad.underlying3
  a3 := Ybad.isAgg3
  z3 := Ybad.sizeOf3
  v3 := Ybad.zeroValue3
  t4 := Ybad.underlying4
  a4 := Ybad.isAgg4
  z4 := Ybad.sizeOf4
  v4 := Ybad.zeroValue4 }
open Go.RowKit Go.Lib in
theorem Ybad.slices_isNaN_int2 (x : Int) (w : World) :
    Calls Ybad.prog 62 #[.int .i64 x] w fun e w' => e = .returned (.bool false) ∧ w' = w := Any.slices_isNaN_int2 Ybad.laysNm232 x w
def Ybad.laysNm231_ren : Go.Shelf.Ren := ⟨fun | 31 => 35 | 37 => 55 | n => n, fun | 3 => 3 | 4 => 4 | n => n, fun | n => n⟩
theorem Ybad.laysNm231 : Go.Proofs.Lays2.n31 Ybad.prog Ybad.laysNm231_ren := {
  mixed := by kernel_rfl
  f31 := Ybad.func35.trans (congrArg some (by kernel_rfl))
  f37 := Ybad.func55.trans (congrArg some (by kernel_rfl))
  t3 := Ybad.underlying3
  a3 := Ybad.isAgg3
  z3 := Ybad.sizeOf3
  v3 := Ybad.zeroValue3
  t4 := Ybad.underlying4
  a4 := Ybad.isAgg4
  z4 := Ybad.sizeOf4
  v4 := Ybad.zeroValue4 }
open Go.RowKit Go.Lib in
theorem Ybad.cmp_Less_int2 (x y : Int) (w : World) :
    Calls Ybad.prog 35 #[.int .i64 x, .int .i64 y] w fun e w' => e = .returned (.bool (decide (x < y))) ∧ w' = w := Any.cmp_Less_int2 Ybad.laysNm231 x y w
def Ybad.laysNm225_ren : Go.Shelf.Ren := ⟨fun | 25 => 56 | 31 => 35 | 32 => 62 | 37 => 55 | n => n, fun | 22 => 35 | 3 => 3 | 4 => 4 | 40 => 111 | 0 => 0 | n => n, fun | n => n⟩
theorem Ybad.laysNm225 : Go.Proofs.Lays2.n25 Ybad.prog Ybad.laysNm225_ren := {
  mixed := by kernel_rfl
  f25 := Ybad.func56.trans (congrArg some (by kernel_rfl))
  f31 := Ybad.func35.trans (congrArg some (by kernel_rfl))
  f32 := Ybad.func62.trans (congrArg some (by kernel_rfl))
  f37 := Ybad.func55.trans (congrArg some (by kernel_rfl))
  t0 := Ybad.underlying0
  a0 := Ybad.isAgg0
  z0 := Ybad.sizeOf0
  v0 := Ybad.zeroValue0
  t3 := Ybad.underlying3
  a3 := Ybad.isAgg3
  z3 := Ybad.sizeOf3
  v3 := Ybad.zeroValue3
  t4 := Ybad.underlying4
  a4 := Ybad.isAgg4
  z4 := Ybad.sizeOf4
  v4 := Ybad.zeroValue4
  t22 := Ybad.underlying35
  a22 := Ybad.isAgg35
  z22 := Ybad.sizeOf35
  v22 := Ybad.zeroValue35
  t40 := Ybad.underlying111
  a40 := Ybad.isAgg111
  z40 := Ybad.sizeOf111
  v40 := Ybad.zeroValue111 }
open Go.RowKit Go.Lib in
theorem Ybad.slices_BinarySearch_int (b off n c : Nat) (zs : List Int) (x : Int) (w : World) (hz : n ≤ zs.length) (hbig : n < 4611686018427387904) (hc : ∀ j, j < zs.length → w.cell? ⟨b, off + j, none⟩ = some (.int .i64 (zs.getD j 0))) (hs : (zs.take n).Pairwise (· ≤ ·)) :
    Calls Ybad.prog 56 #[.slice (some ⟨b, off, none⟩) n c, .int .i64 x] w fun e w' => e = .returned (.tuple #[.int .i64 ((zs.take n).countP (· < x) : Nat), .bool ((zs.take n).contains x)]) ∧ ∃ q, w' = w.drewN q := Any.slices_BinarySearch_int Ybad.laysNm225 b off n c zs x w hz hbig hc hs
open Go.RowKit Go.Sort in
theorem Ybad.slices_Sort_int_none (p : Option Addr) (cap : Nat) (w : World) :
    Calls Ybad.prog 11 #[.slice p 0 cap] w fun e w' => e = .returned (.tuple #[]) ∧ w' = w := Any.slices_Sort_int_none Ybad.lays189 p cap w
open Go.RowKit Go.Lib in
theorem Ybad.slices_BinarySearch_int_empty (a : Option Addr) (c : Nat) (x : Int) (w : World) :
    Calls Ybad.prog 56 #[.slice a 0 c, .int .i64 x] w fun e w' => e = .returned (.tuple #[.int .i64 0, .bool false]) ∧ w' = w := Any.slices_BinarySearch_int_empty Ybad.laysNm225 a c x w
end Go.Proofs
