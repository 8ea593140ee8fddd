import Derived.Shelf.Small.Bits
import Derived.Shelf.Strconv.Itoa0
import Derived.Ground.GgsProg
import Derived.Shelf.GgSortFunc.Insertion
import Derived.Shelf.GgSortFunc.Small
import Derived.Shelf.GgSortFunc.Tiny
import Derived.Shelf.GgSortFunc.Compose
import Derived.Shelf.GgSortFunc.LotD
import Derived.Shelf.GgSortFunc.Pivot
import Derived.Shelf.GgSortFunc.Partition
import Derived.Shelf.GgSortFunc.Pdq
import Derived.Shelf.GgSortFunc.Whole
import Derived.Shelf.Slices.Equal
import Derived.Ground.Names2Prog
import Derived.Shelf.Slices.Clone
import Derived.Shelf.Slices.Empties2
import Derived.Shelf.SlSortFunc.Xorshift
import Derived.Shelf.SlSortFunc.SiftDown
import Derived.Shelf.SlSortFunc.HeapSort
import Derived.Shelf.SlSortFunc.PartialInsertion
import Derived.Ground.SlgnProg
import Derived.Shelf.SlicesE.Clone
import Derived.Test.YbulkblzgProg
namespace Go.Proofs
open Go.Shelf
def Yba.lays128_ren : Go.Shelf.Ren := ⟨fun | 128 => 46 | n => n, fun | 51 => 86 | 3 => 3 | 4 => 4 | 46 => 82 | 5 => 5 | 9 => 9 | n => n, fun | n => n⟩
theorem Yba.lays128 : Go.Proofs.Lays.n128 Yba.prog Yba.lays128_ren := {
  mixed := by kernel_rfl
  f128 := Yba.func46.trans (congrArg some (by kernel_rfl))
  t3 := Yba.underlying3
  a3 := Yba.isAgg3
  z3 := Yba.sizeOf3
  v3 := Yba.zeroValue3
  t4 := Yba.underlying4
  a4 := Yba.isAgg4
  z4 := Yba.sizeOf4
  v4 := Yba.zeroValue4
  t5 := Yba.underlying5
  a5 := Yba.isAgg5
  z5 := Yba.sizeOf5
  v5 := Yba.zeroValue5
  t9 := Yba.underlying9
  a9 := Yba.isAgg9
  z9 := Yba.sizeOf9
  v9 := Yba.zeroValue9
  t46 := Yba.underlying82
  a46 := Yba.isAgg82
  z46 := Yba.sizeOf82
  v46 := Yba.zeroValue82
  t51 := Yba.underlying86
  a51 := Yba.isAgg86
  z51 := Yba.sizeOf86
  v51 := Yba.zeroValue86 }
theorem Yba.bits_Len32 (x : Int) (w : World) (h0 : 0 ≤ x) (h1 : x ≤ 4294967295) :
    Calls Yba.prog 46 #[.int .u32 x] w fun e w' => e = .returned (.int .i64 (Lib.bitLen x.toNat)) ∧ w' = w := Any.bits_Len32 Yba.lays128 x w h0 h1
def Yba.lays125_ren : Go.Shelf.Ren := ⟨fun | 125 => 35 | 128 => 46 | 129 => 47 | n => n, fun | 46 => 82 | 3 => 3 | 51 => 86 | 53 => 92 | 4 => 4 | 5 => 5 | 9 => 9 | n => n, fun | n => n⟩
theorem Yba.lays125 : Go.Proofs.Lays.n125 Yba.prog Yba.lays125_ren := {
  mixed := by kernel_rfl
  f125 := Yba.func35.trans (congrArg some (by kernel_rfl))
  f128 := Yba.func46.trans (congrArg some (by kernel_rfl))
  f129 := Yba.func47.trans (congrArg some (by kernel_rfl))
  t3 := Yba.underlying3
  a3 := Yba.isAgg3
  z3 := Yba.sizeOf3
  v3 := Yba.zeroValue3
  t4 := Yba.underlying4
  a4 := Yba.isAgg4
  z4 := Yba.sizeOf4
  v4 := Yba.zeroValue4
  t5 := Yba.underlying5
  a5 := Yba.isAgg5
  z5 := Yba.sizeOf5
  v5 := Yba.zeroValue5
  t9 := Yba.underlying9
  a9 := Yba.isAgg9
  z9 := Yba.sizeOf9
  v9 := Yba.zeroValue9
  t46 := Yba.underlying82
  a46 := Yba.isAgg82
  z46 := Yba.sizeOf82
  v46 := Yba.zeroValue82
  t51 := Yba.underlying86
  a51 := Yba.isAgg86
  z51 := Yba.sizeOf86
  v51 := Yba.zeroValue86
  t53 := Yba.underlying92
  a53 := Yba.isAgg92
  z53 := Yba.sizeOf92
  v53 := Yba.zeroValue92 }
theorem Yba.bits_Len (x : Int) (w : World) (h0 : 0 ≤ x) (h1 : x ≤ 18446744073709551615) :
    Calls Yba.prog 35 #[.int .u64 x] w fun e w' => e = .returned (.int .i64 (Lib.bitLen x.toNat)) ∧ w' = w := Any.bits_Len Yba.lays125 x w h0 h1
def Yba.lays129_ren : Go.Shelf.Ren := ⟨fun | 129 => 47 | n => n, fun | 53 => 92 | 3 => 3 | 4 => 4 | 46 => 82 | 5 => 5 | 9 => 9 | n => n, fun | n => n⟩
theorem Yba.lays129 : Go.Proofs.Lays.n129 Yba.prog Yba.lays129_ren := {
  mixed := by kernel_rfl
  f129 := Yba.func47.trans (congrArg some (by kernel_rfl))
  t3 := Yba.underlying3
  a3 := Yba.isAgg3
  z3 := Yba.sizeOf3
  v3 := Yba.zeroValue3
  t4 := Yba.underlying4
  a4 := Yba.isAgg4
  z4 := Yba.sizeOf4
  v4 := Yba.zeroValue4
  t5 := Yba.underlying5
  a5 := Yba.isAgg5
  z5 := Yba.sizeOf5
  v5 := Yba.zeroValue5
  t9 := Yba.underlying9
  a9 := Yba.isAgg9
  z9 := Yba.sizeOf9
  v9 := Yba.zeroValue9
  t46 := Yba.underlying82
  a46 := Yba.isAgg82
  z46 := Yba.sizeOf82
  v46 := Yba.zeroValue82
  t53 := Yba.underlying92
  a53 := Yba.isAgg92
  z53 := Yba.sizeOf92
  v53 := Yba.zeroValue92 }
theorem Yba.bits_Len64 (x : Int) (w : World) (h0 : 0 ≤ x) (h1 : x ≤ 18446744073709551615) :
    Calls Yba.prog 47 #[.int .u64 x] w fun e w' => e = .returned (.int .i64 (Lib.bitLen x.toNat)) ∧ w' = w := Any.bits_Len64 Yba.lays129 x w h0 h1
def Yba.laysGg26_ren : Go.Shelf.Ren := ⟨fun | 26 => 48 | n => n, fun | 44 => 85 | 3 => 3 | 0 => 0 | 4 => 4 | 26 => 64 | 37 => 79 | n => n, fun | n => n⟩
theorem Yba.laysGg26 : Go.Proofs.LaysGg.n26 Yba.prog Yba.laysGg26_ren := {
  mixed := by kernel_rfl
  f26 := Yba.func48.trans (congrArg some (by kernel_rfl))
  t0 := Yba.underlying0
  a0 := Yba.isAgg0
  z0 := Yba.sizeOf0
  v0 := Yba.zeroValue0
  i0 := by kernel_rfl
  t3 := Yba.underlying3
  a3 := Yba.isAgg3
  z3 := Yba.sizeOf3
  v3 := Yba.zeroValue3
  i3 := by kernel_rfl
  t4 := Yba.underlying4
  a4 := Yba.isAgg4
  z4 := Yba.sizeOf4
  v4 := Yba.zeroValue4
  i4 := by kernel_rfl
  t26 := Yba.underlying64
  a26 := Yba.isAgg64
  z26 := Yba.sizeOf64
  v26 := Yba.zeroValue64
  i26 := by kernel_rfl
  t37 := Yba.underlying79
  a37 := Yba.isAgg79
  z37 := Yba.sizeOf79
  v37 := Yba.zeroValue79
  i37 := by kernel_rfl
  t44 := Yba.underlying85
  a44 := Yba.isAgg85
  z44 := Yba.sizeOf85
  v44 := Yba.zeroValue85
  i44 := by kernel_rfl }
open Go.RowKit Go.Lib Go.Sort in
theorem Yba.insertionSort_func_one {α : Type} [Inhabited α] (enc : α → Value) (lt : α → α → Bool) (g : Nat) (lb : Array Value) (sf : Nat) (sb : Array Value) (blk off a b : Nat) (d : Array α) (w : World) (eg : ∀ args w, (callFunc g args).run Yba.prog w = .ok (.enter g args) w) (hless : LessReads Yba.prog g lb enc lt blk off d.size w) (hswap : SwapSwaps Yba.prog sf sb enc blk off d.size) (hH : Holds enc w blk off d) (hblk : blk < w.heap.size) (hab : a ≤ b) (hb : b ≤ d.size) (hsz : d.size < 4611686018427387904) :
    Calls Yba.prog 48 #[.agg #[.func (.func g) #[] lb, .func (.func sf) #[] sb], .int .i64 a, .int .i64 b] w fun e w' =>
      e = .returned (.tuple #[]) ∧ ∃ n, w' = putRow enc (Sort.ahead (w.alloc (.cells #[.func (.func g) #[] lb, .func (.func sf) #[] sb] 85)) n) blk off (Sort.insertionSort lt d a b) := Any.insertionSort_func_one Yba.laysGg26 enc lt g lb sf sb blk off a b d w eg hless hswap hH hblk hab hb hsz
def Yba.laysGg14_ren : Go.Shelf.Ren := ⟨fun | 14 => 36 | 26 => 48 | 27 => 49 | 28 => 50 | 29 => 51 | 30 => 52 | 31 => 53 | 32 => 54 | 33 => 55 | 34 => 56 | 35 => 57 | 36 => 58 | 37 => 59 | 38 => 60 | 13 => 35 | 39 => 61 | 24 => 46 | 25 => 47 | n => n, fun | 44 => 85 | 3 => 3 | 0 => 0 | 4 => 4 | 54 => 95 | 53 => 94 | 26 => 64 | 58 => 99 | 37 => 79 | 60 => 101 | 41 => 82 | 51 => 92 | 64 => 105 | 66 => 107 | 67 => 108 | 49 => 86 | 5 => 5 | 9 => 9 | n => n, fun | n => n⟩
theorem Yba.laysGg14 : Go.Proofs.LaysGg.n14 Yba.prog Yba.laysGg14_ren := {
  mixed := by kernel_rfl
  f13 := Yba.func35.trans (congrArg some (by kernel_rfl))
  f14 := Yba.func36.trans (congrArg some (by kernel_rfl))
  f24 := Yba.func46.trans (congrArg some (by kernel_rfl))
  f25 := Yba.func47.trans (congrArg some (by kernel_rfl))
  f26 := Yba.func48.trans (congrArg some (by kernel_rfl))
  f27 := Yba.func49.trans (congrArg some (by kernel_rfl))
  f28 := Yba.func50.trans (congrArg some (by kernel_rfl))
  f29 := Yba.func51.trans (congrArg some (by kernel_rfl))
  f30 := Yba.func52.trans (congrArg some (by kernel_rfl))
  f31 := Yba.func53.trans (congrArg some (by kernel_rfl))
  f32 := Yba.func54.trans (congrArg some (by kernel_rfl))
  f33 := Yba.func55.trans (congrArg some (by kernel_rfl))
  f34 := Yba.func56.trans (congrArg some (by kernel_rfl))
  f35 := Yba.func57.trans (congrArg some (by kernel_rfl))
  f36 := Yba.func58.trans (congrArg some (by kernel_rfl))
  f37 := Yba.func59.trans (congrArg some (by kernel_rfl))
  f38 := Yba.func60.trans (congrArg some (by kernel_rfl))
  f39 := Yba.func61.trans (congrArg some (by kernel_rfl))
  t0 := Yba.underlying0
  a0 := Yba.isAgg0
  z0 := Yba.sizeOf0
  v0 := Yba.zeroValue0
  i0 := by kernel_rfl
  t3 := Yba.underlying3
  a3 := Yba.isAgg3
  z3 := Yba.sizeOf3
  v3 := Yba.zeroValue3
  i3 := by kernel_rfl
  t4 := Yba.underlying4
  a4 := Yba.isAgg4
  z4 := Yba.sizeOf4
  v4 := Yba.zeroValue4
  i4 := by kernel_rfl
  t5 := Yba.underlying5
  a5 := Yba.isAgg5
  z5 := Yba.sizeOf5
  v5 := Yba.zeroValue5
  i5 := by kernel_rfl
  t9 := Yba.underlying9
  a9 := Yba.isAgg9
  z9 := Yba.sizeOf9
  v9 := Yba.zeroValue9
  i9 := by kernel_rfl
  t26 := Yba.underlying64
  a26 := Yba.isAgg64
  z26 := Yba.sizeOf64
  v26 := Yba.zeroValue64
  i26 := by kernel_rfl
  t37 := Yba.underlying79
  a37 := Yba.isAgg79
  z37 := Yba.sizeOf79
  v37 := Yba.zeroValue79
  i37 := by kernel_rfl
  t41 := Yba.underlying82
  a41 := Yba.isAgg82
  z41 := Yba.sizeOf82
  v41 := Yba.zeroValue82
  i41 := by kernel_rfl
  t44 := Yba.underlying85
  a44 := Yba.isAgg85
  z44 := Yba.sizeOf85
  v44 := Yba.zeroValue85
  i44 := by kernel_rfl
  t49 := Yba.underlying86
  a49 := Yba.isAgg86
  z49 := Yba.sizeOf86
  v49 := Yba.zeroValue86
  i49 := by kernel_rfl
  t51 := Yba.underlying92
  a51 := Yba.isAgg92
  z51 := Yba.sizeOf92
  v51 := Yba.zeroValue92
  i51 := by kernel_rfl
  t53 := Yba.underlying94
  a53 := Yba.isAgg94
  z53 := Yba.sizeOf94
  v53 := Yba.zeroValue94
  i53 := by kernel_rfl
  t54 := Yba.underlying95
  a54 := Yba.isAgg95
  z54 := Yba.sizeOf95
  v54 := Yba.zeroValue95
  i54 := by kernel_rfl
  t58 := Yba.underlying99
  a58 := Yba.isAgg99
  z58 := Yba.sizeOf99
  v58 := Yba.zeroValue99
  i58 := by kernel_rfl
  t60 := Yba.underlying101
  a60 := Yba.isAgg101
  z60 := Yba.sizeOf101
  v60 := Yba.zeroValue101
  i60 := by kernel_rfl
  t64 := Yba.underlying105
  a64 := Yba.isAgg105
  z64 := Yba.sizeOf105
  v64 := Yba.zeroValue105
  i64 := by kernel_rfl
  t66 := Yba.underlying107
  a66 := Yba.isAgg107
  z66 := Yba.sizeOf107
  v66 := Yba.zeroValue107
  i66 := by kernel_rfl
  t67 := Yba.underlying108
  a67 := Yba.isAgg108
  z67 := Yba.sizeOf108
  v67 := Yba.zeroValue108
  i67 := by kernel_rfl }
open Go.RowKit Go.Lib Go.Sort in
theorem Yba.pdqsort_func_small {α : Type} [Inhabited α] (enc : α → Value) (lt : α → α → Bool) (g : Nat) (lb : Array Value) (sf : Nat) (sb : Array Value) (blk off a b : Nat) (lim : Int) (d : Array α) (w : World) (eg : ∀ args w, (callFunc g args).run Yba.prog w = .ok (.enter g args) w) (hless : LessReads Yba.prog g lb enc lt blk off d.size w) (hswap : SwapSwaps Yba.prog sf sb enc blk off d.size) (hH : Holds enc w blk off d) (hblk : blk < w.heap.size) (hab : a ≤ b) (hb : b ≤ d.size) (hsz : d.size < 4611686018427387904) (h12 : b - a ≤ 12) :
    Calls Yba.prog 36 #[.agg #[.func (.func g) #[] lb, .func (.func sf) #[] sb], .int .i64 a, .int .i64 b, .int .i64 lim] w fun e w' =>
      e = .returned (.tuple #[]) ∧ ∃ n, w' = putRow enc (Sort.ahead ((w.alloc (.cells #[.func (.func g) #[] lb, .func (.func sf) #[] sb] 85)).alloc (.cells #[.func (.func g) #[] lb, .func (.func sf) #[] sb] 85)) n) blk off (Sort.insertionSort lt d a b) := Any.pdqsort_func_small Yba.laysGg14 enc lt g lb sf sb blk off a b lim d w eg hless hswap hH hblk hab hb hsz h12
def Yba.laysGg6_ren : Go.Shelf.Ren := ⟨fun | 6 => 27 | 10 => 32 | 11 => 33 | 12 => 34 | 13 => 35 | 14 => 36 | 24 => 46 | 25 => 47 | 26 => 48 | 27 => 49 | 28 => 50 | 29 => 51 | 30 => 52 | 31 => 53 | 32 => 54 | 33 => 55 | 34 => 56 | 35 => 57 | 36 => 58 | 37 => 59 | 38 => 60 | 39 => 61 | n => n, fun | 20 => 20 | 26 => 64 | 35 => 77 | 0 => 0 | 37 => 79 | 3 => 3 | 41 => 82 | 44 => 85 | 49 => 86 | 51 => 92 | 4 => 4 | 54 => 95 | 53 => 94 | 58 => 99 | 5 => 5 | 9 => 9 | 60 => 101 | 64 => 105 | 66 => 107 | 67 => 108 | 17 => 17 | 32 => 74 | 33 => 75 | 82 => 123 | 12 => 12 | 75 => 116 | 76 => 117 | 77 => 118 | 78 => 119 | 79 => 120 | 80 => 121 | n => n, fun | n => n⟩
theorem Yba.laysGg6 : Go.Proofs.LaysGg.n6 Yba.prog Yba.laysGg6_ren := {
  mixed := by kernel_rfl
  f6 := Yba.func27.trans (congrArg some (by kernel_rfl))
  f10 := Yba.func32.trans (congrArg some (by kernel_rfl))
  f11 := Yba.func33.trans (congrArg some (by kernel_rfl))
  f12 := Yba.func34.trans (congrArg some (by kernel_rfl))
  f13 := Yba.func35.trans (congrArg some (by kernel_rfl))
  f14 := Yba.func36.trans (congrArg some (by kernel_rfl))
  f24 := Yba.func46.trans (congrArg some (by kernel_rfl))
  f25 := Yba.func47.trans (congrArg some (by kernel_rfl))
  f26 := Yba.func48.trans (congrArg some (by kernel_rfl))
  f27 := Yba.func49.trans (congrArg some (by kernel_rfl))
  f28 := Yba.func50.trans (congrArg some (by kernel_rfl))
  f29 := Yba.func51.trans (congrArg some (by kernel_rfl))
  f30 := Yba.func52.trans (congrArg some (by kernel_rfl))
  f31 := Yba.func53.trans (congrArg some (by kernel_rfl))
  f32 := Yba.func54.trans (congrArg some (by kernel_rfl))
  f33 := Yba.func55.trans (congrArg some (by kernel_rfl))
  f34 := Yba.func56.trans (congrArg some (by kernel_rfl))
  f35 := Yba.func57.trans (congrArg some (by kernel_rfl))
  f36 := Yba.func58.trans (congrArg some (by kernel_rfl))
  f37 := Yba.func59.trans (congrArg some (by kernel_rfl))
  f38 := Yba.func60.trans (congrArg some (by kernel_rfl))
  f39 := Yba.func61.trans (congrArg some (by kernel_rfl))
  t0 := Yba.underlying0
  a0 := Yba.isAgg0
  z0 := Yba.sizeOf0
  v0 := Yba.zeroValue0
  i0 := by kernel_rfl
  t3 := Yba.underlying3
  a3 := Yba.isAgg3
  z3 := Yba.sizeOf3
  v3 := Yba.zeroValue3
  i3 := by kernel_rfl
  t4 := Yba.underlying4
  a4 := Yba.isAgg4
  z4 := Yba.sizeOf4
  v4 := Yba.zeroValue4
  i4 := by kernel_rfl
  t5 := Yba.underlying5
  a5 := Yba.isAgg5
  z5 := Yba.sizeOf5
  v5 := Yba.zeroValue5
  i5 := by kernel_rfl
  t9 := Yba.underlying9
  a9 := Yba.isAgg9
  z9 := Yba.sizeOf9
  v9 := Yba.zeroValue9
  i9 := by kernel_rfl
  t12 := Yba.underlying12
  a12 := Yba.isAgg12
  z12 := Yba.sizeOf12
  v12 := Yba.zeroValue12
  i12 := by kernel_rfl
  t17 := Yba.underlying17
  a17 := Yba.isAgg17
  z17 := Yba.sizeOf17
  v17 := Yba.zeroValue17
  i17 := by kernel_rfl
  t20 := Yba.underlying20
  a20 := Yba.isAgg20
  z20 := Yba.sizeOf20
  v20 := Yba.zeroValue20
  i20 := by kernel_rfl
  t26 := Yba.underlying64
  a26 := Yba.isAgg64
  z26 := Yba.sizeOf64
  v26 := Yba.zeroValue64
  i26 := by kernel_rfl
  t32 := Yba.underlying74
  a32 := Yba.isAgg74
  z32 := Yba.sizeOf74
  v32 := Yba.zeroValue74
  i32 := by kernel_rfl
  t33 := Yba.underlying75
  a33 := Yba.isAgg75
  z33 := Yba.sizeOf75
  v33 := Yba.zeroValue75
  i33 := by kernel_rfl
  t35 := Yba.underlying77
  a35 := Yba.isAgg77
  z35 := Yba.sizeOf77
  v35 := Yba.zeroValue77
  i35 := by kernel_rfl
  t37 := Yba.underlying79
  a37 := Yba.isAgg79
  z37 := Yba.sizeOf79
  v37 := Yba.zeroValue79
  i37 := by kernel_rfl
  t41 := Yba.underlying82
  a41 := Yba.isAgg82
  z41 := Yba.sizeOf82
  v41 := Yba.zeroValue82
  i41 := by kernel_rfl
  t44 := Yba.underlying85
  a44 := Yba.isAgg85
  z44 := Yba.sizeOf85
  v44 := Yba.zeroValue85
  i44 := by kernel_rfl
  t49 := Yba.underlying86
  a49 := Yba.isAgg86
  z49 := Yba.sizeOf86
  v49 := Yba.zeroValue86
  i49 := by kernel_rfl
  t51 := Yba.underlying92
  a51 := Yba.isAgg92
  z51 := Yba.sizeOf92
  v51 := Yba.zeroValue92
  i51 := by kernel_rfl
  t53 := Yba.underlying94
  a53 := Yba.isAgg94
  z53 := Yba.sizeOf94
  v53 := Yba.zeroValue94
  i53 := by kernel_rfl
  t54 := Yba.underlying95
  a54 := Yba.isAgg95
  z54 := Yba.sizeOf95
  v54 := Yba.zeroValue95
  i54 := by kernel_rfl
  t58 := Yba.underlying99
  a58 := Yba.isAgg99
  z58 := Yba.sizeOf99
  v58 := Yba.zeroValue99
  i58 := by kernel_rfl
  t60 := Yba.underlying101
  a60 := Yba.isAgg101
  z60 := Yba.sizeOf101
  v60 := Yba.zeroValue101
  i60 := by kernel_rfl
  t64 := Yba.underlying105
  a64 := Yba.isAgg105
  z64 := Yba.sizeOf105
  v64 := Yba.zeroValue105
  i64 := by kernel_rfl
  t66 := Yba.underlying107
  a66 := Yba.isAgg107
  z66 := Yba.sizeOf107
  v66 := Yba.zeroValue107
  i66 := by kernel_rfl
  t67 := Yba.underlying108
  a67 := Yba.isAgg108
  z67 := Yba.sizeOf108
  v67 := Yba.zeroValue108
  i67 := by kernel_rfl
  t75 := Yba.underlying116
  a75 := Yba.isAgg116
  z75 := Yba.sizeOf116
  v75 := Yba.zeroValue116
  i75 := by kernel_rfl
  t76 := Yba.underlying117
  a76 := Yba.isAgg117
  z76 := Yba.sizeOf117
  v76 := Yba.zeroValue117
  i76 := by kernel_rfl
  t77 := Yba.underlying118
  a77 := Yba.isAgg118
  z77 := Yba.sizeOf118
  v77 := Yba.zeroValue118
  i77 := by kernel_rfl
  t78 := Yba.underlying119
  a78 := Yba.isAgg119
  z78 := Yba.sizeOf119
  v78 := Yba.zeroValue119
  i78 := by kernel_rfl
  t79 := Yba.underlying120
  a79 := Yba.isAgg120
  z79 := Yba.sizeOf120
  v79 := Yba.zeroValue120
  i79 := by kernel_rfl
  t80 := Yba.underlying121
  a80 := Yba.isAgg121
  z80 := Yba.sizeOf121
  v80 := Yba.zeroValue121
  i80 := by kernel_rfl
  t82 := Yba.underlying123
  a82 := Yba.isAgg123
  z82 := Yba.sizeOf123
  v82 := Yba.zeroValue123
  i82 := by kernel_rfl }
open Go.RowKit Go.Lib Go.Sort in
theorem Yba.insertionSort_func_none (lf : Fn) (la lb : Array Value) (f : Nat) (sb : Array Value) (a b : Nat) (h : b ≤ a + 1) (ha : a < 4611686018427387904) (w : World) :
    Calls Yba.prog 48 #[.agg #[.func lf la lb, .func (.func f) #[] sb], .int .i64 a, .int .i64 b] w fun e w' => e = .returned (.tuple #[]) ∧ w' = w.alloc (.cells #[.func lf la lb, .func (.func f) #[] sb] 85) := Any.insertionSort_func_none Yba.laysGg26 lf la lb f sb a b h ha w
open Go.RowKit Go.Lib Go.Sort in
theorem Yba.pdqsort_func_tiny (lf : Fn) (la lb : Array Value) (f : Nat) (sb : Array Value) (n : Nat) (h : n ≤ 1) (lim : Int) (w : World) :
    Calls Yba.prog 36 #[.agg #[.func lf la lb, .func (.func f) #[] sb], .int .i64 0, .int .i64 n, .int .i64 lim] w fun e w' => e = .returned (.tuple #[]) ∧ w' = (w.alloc (.cells #[.func lf la lb, .func (.func f) #[] sb] 85)).alloc (.cells #[.func lf la lb, .func (.func f) #[] sb] 85) := Any.pdqsort_func_tiny Yba.laysGg14 lf la lb f sb n h lim w
open Go.RowKit Go.Lib Go.Sort in
theorem Yba.insertionSort_func_w {α : Type} [Inhabited α] (enc : α → Value) (lt : α → α → Bool) (g : Nat) (lb : Array Value) (sf : Nat) (sb : Array Value) (blk off a b : Nat) (d : Array α) (w : World) (eg : ∀ args w, (callFunc g args).run Yba.prog w = .ok (.enter g args) w) (hless : LessReads Yba.prog g lb enc lt blk off d.size w) (hswap : SwapSwaps Yba.prog sf sb enc blk off d.size) (hH : Holds enc w blk off d) (hblk : blk < w.heap.size) (hab : a ≤ b) (hb : b ≤ d.size) (hsz : d.size < 4611686018427387904) :
    Calls Yba.prog 48 #[.agg #[.func (.func g) #[] lb, .func (.func sf) #[] sb], .int .i64 a, .int .i64 b] w fun e w' => e = .returned (.tuple #[]) ∧ ∃ n os, w' = sortWorld enc w blk off n (Sort.insertionSort lt d a b) os := Any.insertionSort_func_w Yba.laysGg26 enc lt g lb sf sb blk off a b d w eg hless hswap hH hblk hab hb hsz
def Yba.laysGg30_ren : Go.Shelf.Ren := ⟨fun | 30 => 52 | n => n, fun | 44 => 85 | 3 => 3 | 0 => 0 | 4 => 4 | 37 => 79 | 26 => 64 | n => n, fun | n => n⟩
theorem Yba.laysGg30 : Go.Proofs.LaysGg.n30 Yba.prog Yba.laysGg30_ren := {
  mixed := by kernel_rfl
  f30 := Yba.func52.trans (congrArg some (by kernel_rfl))
  t0 := Yba.underlying0
  a0 := Yba.isAgg0
  z0 := Yba.sizeOf0
  v0 := Yba.zeroValue0
  i0 := by kernel_rfl
  t3 := Yba.underlying3
  a3 := Yba.isAgg3
  z3 := Yba.sizeOf3
  v3 := Yba.zeroValue3
  i3 := by kernel_rfl
  t4 := Yba.underlying4
  a4 := Yba.isAgg4
  z4 := Yba.sizeOf4
  v4 := Yba.zeroValue4
  i4 := by kernel_rfl
  t26 := Yba.underlying64
  a26 := Yba.isAgg64
  z26 := Yba.sizeOf64
  v26 := Yba.zeroValue64
  i26 := by kernel_rfl
  t37 := Yba.underlying79
  a37 := Yba.isAgg79
  z37 := Yba.sizeOf79
  v37 := Yba.zeroValue79
  i37 := by kernel_rfl
  t44 := Yba.underlying85
  a44 := Yba.isAgg85
  z44 := Yba.sizeOf85
  v44 := Yba.zeroValue85
  i44 := by kernel_rfl }
open Go.RowKit Go.Lib Go.Sort in
theorem Yba.reverseRange_func_one {α : Type} [Inhabited α] (enc : α → Value) (lf : Fn) (la lb : Array Value) (sf : Nat) (sb : Array Value) (blk off a b : Nat) (d : Array α) (w : World) (hswap : SwapSwaps Yba.prog sf sb enc blk off d.size) (hH : Holds enc w blk off d) (hblk : blk < w.heap.size) (hab : a ≤ b) (hb : b ≤ d.size) (hsz : d.size < 4611686018427387904) :
    Calls Yba.prog 52 #[.agg #[.func lf la lb, .func (.func sf) #[] sb], .int .i64 a, .int .i64 b] w fun e w' => e = .returned (.tuple #[]) ∧ ∃ n, w' = putRow enc (Sort.ahead (w.alloc (.cells #[.func lf la lb, .func (.func sf) #[] sb] 85)) n) blk off (reverseRange d a b) := Any.reverseRange_func_one Yba.laysGg30 enc lf la lb sf sb blk off a b d w hswap hH hblk hab hb hsz
open Go.RowKit Go.Lib Go.Sort in
theorem Yba.reverseRange_func_w {α : Type} [Inhabited α] (enc : α → Value) (lf : Fn) (la lb : Array Value) (sf : Nat) (sb : Array Value) (blk off a b : Nat) (d : Array α) (w : World) (hswap : SwapSwaps Yba.prog sf sb enc blk off d.size) (hH : Holds enc w blk off d) (hblk : blk < w.heap.size) (hab : a ≤ b) (hb : b ≤ d.size) (hsz : d.size < 4611686018427387904) :
    Calls Yba.prog 52 #[.agg #[.func lf la lb, .func (.func sf) #[] sb], .int .i64 a, .int .i64 b] w fun e w' => e = .returned (.tuple #[]) ∧ ∃ n os, w' = sortWorld enc w blk off n (reverseRange d a b) os := Any.reverseRange_func_w Yba.laysGg30 enc lf la lb sf sb blk off a b d w hswap hH hblk hab hb hsz
def Yba.laysGg39_ren : Go.Shelf.Ren := ⟨fun | 39 => 61 | n => n, fun | 44 => 85 | 3 => 3 | 64 => 105 | 0 => 0 | 26 => 64 | 4 => 4 | 37 => 79 | n => n, fun | n => n⟩
theorem Yba.laysGg39 : Go.Proofs.LaysGg.n39 Yba.prog Yba.laysGg39_ren := {
  mixed := by kernel_rfl
  f39 := Yba.func61.trans (congrArg some (by kernel_rfl))
  t0 := Yba.underlying0
  a0 := Yba.isAgg0
  z0 := Yba.sizeOf0
  v0 := Yba.zeroValue0
  i0 := by kernel_rfl
  t3 := Yba.underlying3
  a3 := Yba.isAgg3
  z3 := Yba.sizeOf3
  v3 := Yba.zeroValue3
  i3 := by kernel_rfl
  t4 := Yba.underlying4
  a4 := Yba.isAgg4
  z4 := Yba.sizeOf4
  v4 := Yba.zeroValue4
  i4 := by kernel_rfl
  t26 := Yba.underlying64
  a26 := Yba.isAgg64
  z26 := Yba.sizeOf64
  v26 := Yba.zeroValue64
  i26 := by kernel_rfl
  t37 := Yba.underlying79
  a37 := Yba.isAgg79
  z37 := Yba.sizeOf79
  v37 := Yba.zeroValue79
  i37 := by kernel_rfl
  t44 := Yba.underlying85
  a44 := Yba.isAgg85
  z44 := Yba.sizeOf85
  v44 := Yba.zeroValue85
  i44 := by kernel_rfl
  t64 := Yba.underlying105
  a64 := Yba.isAgg105
  z64 := Yba.sizeOf105
  v64 := Yba.zeroValue105
  i64 := by kernel_rfl }
open Go.RowKit Go.Lib Go.Sort in
theorem Yba.order2_func {α : Type} [Inhabited α] (enc : α → Value) (lt : α → α → Bool) (g : Nat) (lb : Array Value) (sfn : Fn) (sa sb : Array Value) (blk off : Nat) (w0 W : World) (d : Array α) (a b cb co s : Nat) (eg : ∀ args w, (callFunc g args).run Yba.prog w = .ok (.enter g args) w) (hL : LessReads Yba.prog g lb enc lt blk off d.size w0) (hW : SW enc w0 blk off d W) (ha : a < d.size) (hb : b < d.size) (hS : Holds (Value.int .i64) W cb co (one s)) (hcb : cb < W.heap.size) (hs : s < 4611686018427387904) :
    Calls Yba.prog 61 #[.agg #[.func (.func g) #[] lb, .func sfn sa sb], .int .i64 a, .int .i64 b, .pointer (some ⟨cb, co, none⟩)] W fun e w' =>
      e = .returned (.tuple #[.int .i64 (order2 lt d a b s).1, .int .i64 (order2 lt d a b s).2.1]) ∧ ∃ n os, w' = sortWorld (Value.int .i64) W cb co n (one (order2 lt d a b s).2.2) os := Any.order2_func Yba.laysGg39 enc lt g lb sfn sa sb blk off w0 W d a b cb co s eg hL hW ha hb hS hcb hs
def Yba.laysGg38_ren : Go.Shelf.Ren := ⟨fun | 38 => 60 | 39 => 61 | n => n, fun | 44 => 85 | 3 => 3 | 64 => 105 | 0 => 0 | 67 => 108 | 26 => 64 | 4 => 4 | 37 => 79 | n => n, fun | n => n⟩
theorem Yba.laysGg38 : Go.Proofs.LaysGg.n38 Yba.prog Yba.laysGg38_ren := {
  mixed := by kernel_rfl
  f38 := Yba.func60.trans (congrArg some (by kernel_rfl))
  f39 := Yba.func61.trans (congrArg some (by kernel_rfl))
  t0 := Yba.underlying0
  a0 := Yba.isAgg0
  z0 := Yba.sizeOf0
  v0 := Yba.zeroValue0
  i0 := by kernel_rfl
  t3 := Yba.underlying3
  a3 := Yba.isAgg3
  z3 := Yba.sizeOf3
  v3 := Yba.zeroValue3
  i3 := by kernel_rfl
  t4 := Yba.underlying4
  a4 := Yba.isAgg4
  z4 := Yba.sizeOf4
  v4 := Yba.zeroValue4
  i4 := by kernel_rfl
  t26 := Yba.underlying64
  a26 := Yba.isAgg64
  z26 := Yba.sizeOf64
  v26 := Yba.zeroValue64
  i26 := by kernel_rfl
  t37 := Yba.underlying79
  a37 := Yba.isAgg79
  z37 := Yba.sizeOf79
  v37 := Yba.zeroValue79
  i37 := by kernel_rfl
  t44 := Yba.underlying85
  a44 := Yba.isAgg85
  z44 := Yba.sizeOf85
  v44 := Yba.zeroValue85
  i44 := by kernel_rfl
  t64 := Yba.underlying105
  a64 := Yba.isAgg105
  z64 := Yba.sizeOf105
  v64 := Yba.zeroValue105
  i64 := by kernel_rfl
  t67 := Yba.underlying108
  a67 := Yba.isAgg108
  z67 := Yba.sizeOf108
  v67 := Yba.zeroValue108
  i67 := by kernel_rfl }
open Go.RowKit Go.Lib Go.Sort in
theorem Yba.median_func {α : Type} [Inhabited α] (enc : α → Value) (lt : α → α → Bool) (g : Nat) (lb : Array Value) (sfn : Fn) (sa sb : Array Value) (blk off : Nat) (w0 W : World) (d : Array α) (a b c cb co s : Nat) (eg : ∀ args w, (callFunc g args).run Yba.prog w = .ok (.enter g args) w) (hL : LessReads Yba.prog g lb enc lt blk off d.size w0) (hW : SW enc w0 blk off d W) (ha : a < d.size) (hb : b < d.size) (hc : c < d.size) (hS : Holds (Value.int .i64) W cb co (one s)) (hcb0 : w0.heap.size ≤ cb) (hcb : cb < W.heap.size) (hs : s + 3 < 4611686018427387904) :
    Calls Yba.prog 60 #[.agg #[.func (.func g) #[] lb, .func sfn sa sb], .int .i64 a, .int .i64 b, .int .i64 c, .pointer (some ⟨cb, co, none⟩)] W fun e w' =>
      e = .returned (.int .i64 (median lt d a b c s).1) ∧ ∃ n os, w' = sortWorld (Value.int .i64) W cb co n (one (median lt d a b c s).2) os := Any.median_func Yba.laysGg38 enc lt g lb sfn sa sb blk off w0 W d a b c cb co s eg hL hW ha hb hc hS hcb0 hcb hs
def Yba.laysGg37_ren : Go.Shelf.Ren := ⟨fun | 37 => 59 | 38 => 60 | 39 => 61 | n => n, fun | 44 => 85 | 3 => 3 | 64 => 105 | 0 => 0 | 67 => 108 | 26 => 64 | 4 => 4 | 37 => 79 | n => n, fun | n => n⟩
theorem Yba.laysGg37 : Go.Proofs.LaysGg.n37 Yba.prog Yba.laysGg37_ren := {
  mixed := by kernel_rfl
  f37 := Yba.func59.trans (congrArg some (by kernel_rfl))
  f38 := Yba.func60.trans (congrArg some (by kernel_rfl))
  f39 := Yba.func61.trans (congrArg some (by kernel_rfl))
  t0 := Yba.underlying0
  a0 := Yba.isAgg0
  z0 := Yba.sizeOf0
  v0 := Yba.zeroValue0
  i0 := by kernel_rfl
  t3 := Yba.underlying3
  a3 := Yba.isAgg3
  z3 := Yba.sizeOf3
  v3 := Yba.zeroValue3
  i3 := by kernel_rfl
  t4 := Yba.underlying4
  a4 := Yba.isAgg4
  z4 := Yba.sizeOf4
  v4 := Yba.zeroValue4
  i4 := by kernel_rfl
  t26 := Yba.underlying64
  a26 := Yba.isAgg64
  z26 := Yba.sizeOf64
  v26 := Yba.zeroValue64
  i26 := by kernel_rfl
  t37 := Yba.underlying79
  a37 := Yba.isAgg79
  z37 := Yba.sizeOf79
  v37 := Yba.zeroValue79
  i37 := by kernel_rfl
  t44 := Yba.underlying85
  a44 := Yba.isAgg85
  z44 := Yba.sizeOf85
  v44 := Yba.zeroValue85
  i44 := by kernel_rfl
  t64 := Yba.underlying105
  a64 := Yba.isAgg105
  z64 := Yba.sizeOf105
  v64 := Yba.zeroValue105
  i64 := by kernel_rfl
  t67 := Yba.underlying108
  a67 := Yba.isAgg108
  z67 := Yba.sizeOf108
  v67 := Yba.zeroValue108
  i67 := by kernel_rfl }
open Go.RowKit Go.Lib Go.Sort in
theorem Yba.medianAdjacent_func {α : Type} [Inhabited α] (enc : α → Value) (lt : α → α → Bool) (g : Nat) (lb : Array Value) (sfn : Fn) (sa sb : Array Value) (blk off : Nat) (w0 W : World) (d : Array α) (a cb co s : Nat) (eg : ∀ args w, (callFunc g args).run Yba.prog w = .ok (.enter g args) w) (hL : LessReads Yba.prog g lb enc lt blk off d.size w0) (hW : SW enc w0 blk off d W) (ha1 : 1 ≤ a) (ha2 : a + 1 < d.size) (hsz : d.size < 4611686018427387904) (hS : Holds (Value.int .i64) W cb co (one s)) (hcb0 : w0.heap.size ≤ cb) (hcb : cb < W.heap.size) (hs : s + 3 < 4611686018427387904) :
    Calls Yba.prog 59 #[.agg #[.func (.func g) #[] lb, .func sfn sa sb], .int .i64 a, .pointer (some ⟨cb, co, none⟩)] W fun e w' =>
      e = .returned (.int .i64 (medianAdjacent lt d a s).1) ∧ ∃ n os, w' = sortWorld (Value.int .i64) W cb co n (one (medianAdjacent lt d a s).2) os := Any.medianAdjacent_func Yba.laysGg37 enc lt g lb sfn sa sb blk off w0 W d a cb co s eg hL hW ha1 ha2 hsz hS hcb0 hcb hs
def Yba.laysGg29_ren : Go.Shelf.Ren := ⟨fun | 29 => 51 | 37 => 59 | 38 => 60 | 39 => 61 | n => n, fun | 44 => 85 | 3 => 3 | 53 => 94 | 0 => 0 | 4 => 4 | 64 => 105 | 67 => 108 | 26 => 64 | 37 => 79 | n => n, fun | n => n⟩
theorem Yba.laysGg29 : Go.Proofs.LaysGg.n29 Yba.prog Yba.laysGg29_ren := {
  mixed := by kernel_rfl
  f29 := Yba.func51.trans (congrArg some (by kernel_rfl))
  f37 := Yba.func59.trans (congrArg some (by kernel_rfl))
  f38 := Yba.func60.trans (congrArg some (by kernel_rfl))
  f39 := Yba.func61.trans (congrArg some (by kernel_rfl))
  t0 := Yba.underlying0
  a0 := Yba.isAgg0
  z0 := Yba.sizeOf0
  v0 := Yba.zeroValue0
  i0 := by kernel_rfl
  t3 := Yba.underlying3
  a3 := Yba.isAgg3
  z3 := Yba.sizeOf3
  v3 := Yba.zeroValue3
  i3 := by kernel_rfl
  t4 := Yba.underlying4
  a4 := Yba.isAgg4
  z4 := Yba.sizeOf4
  v4 := Yba.zeroValue4
  i4 := by kernel_rfl
  t26 := Yba.underlying64
  a26 := Yba.isAgg64
  z26 := Yba.sizeOf64
  v26 := Yba.zeroValue64
  i26 := by kernel_rfl
  t37 := Yba.underlying79
  a37 := Yba.isAgg79
  z37 := Yba.sizeOf79
  v37 := Yba.zeroValue79
  i37 := by kernel_rfl
  t44 := Yba.underlying85
  a44 := Yba.isAgg85
  z44 := Yba.sizeOf85
  v44 := Yba.zeroValue85
  i44 := by kernel_rfl
  t53 := Yba.underlying94
  a53 := Yba.isAgg94
  z53 := Yba.sizeOf94
  v53 := Yba.zeroValue94
  i53 := by kernel_rfl
  t64 := Yba.underlying105
  a64 := Yba.isAgg105
  z64 := Yba.sizeOf105
  v64 := Yba.zeroValue105
  i64 := by kernel_rfl
  t67 := Yba.underlying108
  a67 := Yba.isAgg108
  z67 := Yba.sizeOf108
  v67 := Yba.zeroValue108
  i67 := by kernel_rfl }
open Go.RowKit Go.Lib Go.Sort in
theorem Yba.choosePivot_func {α : Type} [Inhabited α] (enc : α → Value) (lt : α → α → Bool) (g : Nat) (lb : Array Value) (sfn : Fn) (sa sb : Array Value) (blk off a b : Nat) (W : World) (d : Array α) (eg : ∀ args w, (callFunc g args).run Yba.prog w = .ok (.enter g args) w) (hless : LessReads Yba.prog g lb enc lt blk off d.size W) (hH : Holds enc W blk off d) (hab : a < b) (hb : b ≤ d.size) (hsz : d.size < 4611686018427387904) :
    Calls Yba.prog 51 #[.agg #[.func (.func g) #[] lb, .func sfn sa sb], .int .i64 a, .int .i64 b] W fun e w' =>
      e = .returned (.tuple #[.int .i64 (choosePivot lt d a b).1, .int .i64 (hintCode (choosePivot lt d a b).2)]) ∧ ∃ n os, w' = grow (Sort.ahead W n) os := Any.choosePivot_func Yba.laysGg29 enc lt g lb sfn sa sb blk off a b W d eg hless hH hab hb hsz
def Yba.laysGg32_ren : Go.Shelf.Ren := ⟨fun | 32 => 54 | n => n, fun | 44 => 85 | 3 => 3 | 0 => 0 | 37 => 79 | 4 => 4 | 26 => 64 | n => n, fun | n => n⟩
theorem Yba.laysGg32 : Go.Proofs.LaysGg.n32 Yba.prog Yba.laysGg32_ren := {
  mixed := by kernel_rfl
  f32 := Yba.func54.trans (congrArg some (by kernel_rfl))
  t0 := Yba.underlying0
  a0 := Yba.isAgg0
  z0 := Yba.sizeOf0
  v0 := Yba.zeroValue0
  i0 := by kernel_rfl
  t3 := Yba.underlying3
  a3 := Yba.isAgg3
  z3 := Yba.sizeOf3
  v3 := Yba.zeroValue3
  i3 := by kernel_rfl
  t4 := Yba.underlying4
  a4 := Yba.isAgg4
  z4 := Yba.sizeOf4
  v4 := Yba.zeroValue4
  i4 := by kernel_rfl
  t26 := Yba.underlying64
  a26 := Yba.isAgg64
  z26 := Yba.sizeOf64
  v26 := Yba.zeroValue64
  i26 := by kernel_rfl
  t37 := Yba.underlying79
  a37 := Yba.isAgg79
  z37 := Yba.sizeOf79
  v37 := Yba.zeroValue79
  i37 := by kernel_rfl
  t44 := Yba.underlying85
  a44 := Yba.isAgg85
  z44 := Yba.sizeOf85
  v44 := Yba.zeroValue85
  i44 := by kernel_rfl }
open Go.RowKit Go.Lib Go.Sort in
theorem Yba.partitionEqual_func_one {α : Type} [Inhabited α] (enc : α → Value) (lt : α → α → Bool) (g : Nat) (lb : Array Value) (sf : Nat) (sb : Array Value) (blk off a b pivot : Nat) (d : Array α) (W : World) (eg : ∀ args w, (callFunc g args).run Yba.prog w = .ok (.enter g args) w) (hless : LessReads Yba.prog g lb enc lt blk off d.size W) (hswap : SwapSwaps Yba.prog sf sb enc blk off d.size) (hH : Holds enc W blk off d) (hblk : blk < W.heap.size) (hap : a ≤ pivot) (hpb : pivot < b) (hb : b ≤ d.size) (hsz : d.size < 4611686018427387904) :
    Calls Yba.prog 54 #[.agg #[.func (.func g) #[] lb, .func (.func sf) #[] sb], .int .i64 a, .int .i64 b, .int .i64 pivot] W fun e w' =>
      e = .returned (.int .i64 (Sort.partitionEqual lt d a b pivot).1) ∧ ∃ n, w' = (putRow enc (W.alloc (.cells #[.func (.func g) #[] lb, .func (.func sf) #[] sb] 85)) blk off (Sort.partitionEqual lt d a b pivot).2).drewN n := Any.partitionEqual_func_one Yba.laysGg32 enc lt g lb sf sb blk off a b pivot d W eg hless hswap hH hblk hap hpb hb hsz
def Yba.laysGg33_ren : Go.Shelf.Ren := ⟨fun | 33 => 55 | n => n, fun | 44 => 85 | 3 => 3 | 4 => 4 | 0 => 0 | 37 => 79 | 26 => 64 | n => n, fun | n => n⟩
theorem Yba.laysGg33 : Go.Proofs.LaysGg.n33 Yba.prog Yba.laysGg33_ren := {
  mixed := by kernel_rfl
  f33 := Yba.func55.trans (congrArg some (by kernel_rfl))
  t0 := Yba.underlying0
  a0 := Yba.isAgg0
  z0 := Yba.sizeOf0
  v0 := Yba.zeroValue0
  i0 := by kernel_rfl
  t3 := Yba.underlying3
  a3 := Yba.isAgg3
  z3 := Yba.sizeOf3
  v3 := Yba.zeroValue3
  i3 := by kernel_rfl
  t4 := Yba.underlying4
  a4 := Yba.isAgg4
  z4 := Yba.sizeOf4
  v4 := Yba.zeroValue4
  i4 := by kernel_rfl
  t26 := Yba.underlying64
  a26 := Yba.isAgg64
  z26 := Yba.sizeOf64
  v26 := Yba.zeroValue64
  i26 := by kernel_rfl
  t37 := Yba.underlying79
  a37 := Yba.isAgg79
  z37 := Yba.sizeOf79
  v37 := Yba.zeroValue79
  i37 := by kernel_rfl
  t44 := Yba.underlying85
  a44 := Yba.isAgg85
  z44 := Yba.sizeOf85
  v44 := Yba.zeroValue85
  i44 := by kernel_rfl }
open Go.RowKit Go.Lib Go.Sort in
theorem Yba.partition_func_one {α : Type} [Inhabited α] (enc : α → Value) (lt : α → α → Bool) (g : Nat) (lb : Array Value) (sf : Nat) (sb : Array Value) (blk off a b pivot : Nat) (d : Array α) (W : World) (eg : ∀ args w, (callFunc g args).run Yba.prog w = .ok (.enter g args) w) (hless : LessReads Yba.prog g lb enc lt blk off d.size W) (hswap : SwapSwaps Yba.prog sf sb enc blk off d.size) (hH : Holds enc W blk off d) (hblk : blk < W.heap.size) (hap : a ≤ pivot) (hpb : pivot < b) (hb : b ≤ d.size) (hsz : d.size < 4611686018427387904) :
    Calls Yba.prog 55 #[.agg #[.func (.func g) #[] lb, .func (.func sf) #[] sb], .int .i64 a, .int .i64 b, .int .i64 pivot] W fun e w' =>
      e = .returned (.tuple #[.int .i64 (Sort.partition lt d a b pivot).1, .bool (Sort.partition lt d a b pivot).2.1]) ∧ ∃ n, w' = (putRow enc (W.alloc (.cells #[.func (.func g) #[] lb, .func (.func sf) #[] sb] 85)) blk off (Sort.partition lt d a b pivot).2.2).drewN n := Any.partition_func_one Yba.laysGg33 enc lt g lb sf sb blk off a b pivot d W eg hless hswap hH hblk hap hpb hb hsz
open Go.RowKit Go.Lib Go.Sort in
theorem Yba.partitionEqual_func_w {α : Type} [Inhabited α] (enc : α → Value) (lt : α → α → Bool) (g : Nat) (lb : Array Value) (sf : Nat) (sb : Array Value) (blk off a b pivot : Nat) (d : Array α) (W : World) (eg : ∀ args w, (callFunc g args).run Yba.prog w = .ok (.enter g args) w) (hless : LessReads Yba.prog g lb enc lt blk off d.size W) (hswap : SwapSwaps Yba.prog sf sb enc blk off d.size) (hH : Holds enc W blk off d) (hblk : blk < W.heap.size) (hap : a ≤ pivot) (hpb : pivot < b) (hb : b ≤ d.size) (hsz : d.size < 4611686018427387904) :
    Calls Yba.prog 54 #[.agg #[.func (.func g) #[] lb, .func (.func sf) #[] sb], .int .i64 a, .int .i64 b, .int .i64 pivot] W fun e w' => e = .returned (.int .i64 (Sort.partitionEqual lt d a b pivot).1) ∧ ∃ n os, w' = sortWorld enc W blk off n (Sort.partitionEqual lt d a b pivot).2 os := Any.partitionEqual_func_w Yba.laysGg32 enc lt g lb sf sb blk off a b pivot d W eg hless hswap hH hblk hap hpb hb hsz
open Go.RowKit Go.Lib Go.Sort in
theorem Yba.partition_func_w {α : Type} [Inhabited α] (enc : α → Value) (lt : α → α → Bool) (g : Nat) (lb : Array Value) (sf : Nat) (sb : Array Value) (blk off a b pivot : Nat) (d : Array α) (W : World) (eg : ∀ args w, (callFunc g args).run Yba.prog w = .ok (.enter g args) w) (hless : LessReads Yba.prog g lb enc lt blk off d.size W) (hswap : SwapSwaps Yba.prog sf sb enc blk off d.size) (hH : Holds enc W blk off d) (hblk : blk < W.heap.size) (hap : a ≤ pivot) (hpb : pivot < b) (hb : b ≤ d.size) (hsz : d.size < 4611686018427387904) :
    Calls Yba.prog 55 #[.agg #[.func (.func g) #[] lb, .func (.func sf) #[] sb], .int .i64 a, .int .i64 b, .int .i64 pivot] W fun e w' => e = .returned (.tuple #[.int .i64 (Sort.partition lt d a b pivot).1, .bool (Sort.partition lt d a b pivot).2.1]) ∧ ∃ n os, w' = sortWorld enc W blk off n (Sort.partition lt d a b pivot).2.2 os := Any.partition_func_w Yba.laysGg33 enc lt g lb sf sb blk off a b pivot d W eg hless hswap hH hblk hap hpb hb hsz
open Go.RowKit Go.Lib Go.Sort in
theorem Yba.pdqsort_func_all {α : Type} [Inhabited α] (enc : α → Value) (lt : α → α → Bool) (hO : SWO lt) (g : Nat) (lb : Array Value) (sf : Nat) (sb : Array Value) (eg : ∀ args w, (callFunc g args).run Yba.prog w = .ok (.enter g args) w) :
    ∀ (N blk off a b limit : Nat) (d : Array α) (w : World), b - a < N → LessReads Yba.prog g lb enc lt blk off d.size w → SwapSwaps Yba.prog sf sb enc blk off d.size → Holds enc w blk off d → blk < w.heap.size → a ≤ b → b ≤ d.size → d.size < 4611686018427387904 → limit < 4611686018427387904 → Below lt a b d →
    Calls Yba.prog 36 #[.agg #[.func (.func g) #[] lb, .func (.func sf) #[] sb], .int .i64 a, .int .i64 b, .int .i64 limit] w fun e w' => e = .returned (.tuple #[]) ∧ At enc w blk off (pdq lt d a b limit true true) w' := Any.pdqsort_func_all Yba.laysGg14 enc lt hO g lb sf sb eg
def Yba.lays193_ren : Go.Shelf.Ren := ⟨fun | 193 => 12 | n => n, fun | 31 => 22 | 9 => 9 | 4 => 4 | 3 => 3 | 0 => 0 | n => n, fun | n => n⟩
theorem Yba.lays193 : Go.Proofs.Lays.n193 Yba.prog Yba.lays193_ren := {
  mixed := by kernel_rfl
  f193 := Yba.func12.trans (congrArg some (by kernel_rfl))
  t0 := Yba.underlying0
  a0 := Yba.isAgg0
  z0 := Yba.sizeOf0
  v0 := Yba.zeroValue0
  t3 := Yba.underlying3
  a3 := Yba.isAgg3
  z3 := Yba.sizeOf3
  v3 := Yba.zeroValue3
  t4 := Yba.underlying4
  a4 := Yba.isAgg4
  z4 := Yba.sizeOf4
  v4 := Yba.zeroValue4
  t9 := Yba.underlying9
  a9 := Yba.isAgg9
  z9 := Yba.sizeOf9
  v9 := Yba.zeroValue9
  t31 := Yba.underlying22
  a31 := Yba.isAgg22
  z31 := Yba.sizeOf22
  v31 := Yba.zeroValue22 }
open Go.RowKit Go.Lib in
theorem Yba.slices_Equal_string (b1 o1 n c b2 o2 m d : Nat) (xs ys : List ByteArray) (w : World) (hx : n ≤ xs.length) (hy : m ≤ ys.length) (hbig : n ≤ 9223372036854775807) (hbig2 : m ≤ 9223372036854775807) (hc1 : ∀ j, j < xs.length → w.cell? ⟨b1, o1 + j, none⟩ = some (.string (xs.getD j ByteArray.empty))) (hc2 : ∀ j, j < ys.length → w.cell? ⟨b2, o2 + j, none⟩ = some (.string (ys.getD j ByteArray.empty))) :
    Calls Yba.prog 12 #[.slice (some ⟨b1, o1, none⟩) n c, .slice (some ⟨b2, o2, none⟩) m d] w fun e w' => e = .returned (.bool (decide (xs.take n = ys.take m))) ∧ ∃ q, w' = w.drewN q := Any.slices_Equal_string Yba.lays193 b1 o1 n c b2 o2 m d xs ys w hx hy hbig hbig2 hc1 hc2
open Go.RowKit Go.Lib in
theorem Yba.slices_Equal_string_empty (a1 a2 : Option Addr) (c m d : Nat) (w : World) (hbig2 : m ≤ 9223372036854775807) :
    Calls Yba.prog 12 #[.slice a1 0 c, .slice a2 m d] w fun e w' => e = .returned (.bool (decide (m = 0))) ∧ w' = w := Any.slices_Equal_string_empty Yba.lays193 a1 a2 c m d w hbig2
def Yba.laysNm216_ren : Go.Shelf.Ren := ⟨fun | 16 => 8 | n => n, fun | 24 => 22 | 9 => 9 | 4 => 4 | n => n, fun | n => n⟩
theorem Yba.laysNm216 : Go.Proofs.Lays2.n16 Yba.prog Yba.laysNm216_ren := {
  mixed := by kernel_rfl
  f16 := Yba.func8.trans (congrArg some (by kernel_rfl))
  t4 := Yba.underlying4
  a4 := Yba.isAgg4
  z4 := Yba.sizeOf4
  v4 := Yba.zeroValue4
  t9 := Yba.underlying9
  a9 := Yba.isAgg9
  z9 := Yba.sizeOf9
  v9 := Yba.zeroValue9
  t24 := Yba.underlying22
  a24 := Yba.isAgg22
  z24 := Yba.sizeOf22
  v24 := Yba.zeroValue22
  i9 := by kernel_rfl }
open Go.RowKit Go.Lib in
theorem Yba.slices_Clone_string (b off n c : Nat) (zs : List ByteArray) (w : World) (hz : n ≤ zs.length) (hbig : n * 16 ≤ 140737488355328) (hc : ∀ j, j < zs.length → w.cell? ⟨b, off + j, none⟩ = some (.string (zs.getD j ByteArray.empty))) :
    Calls Yba.prog 8 #[.slice (some ⟨b, off, none⟩) n c] w fun e w' => ∃ v', e = .returned v' ∧ w'.ownsRow w.heap.size 9 1 v' n ((zs.take n).map (Value.string)) ∧ v' ≠ .slice none 0 0 ∧ Below w.heap.size w w' := Any.slices_Clone_string Yba.laysNm216 b off n c zs w hz hbig hc
open Go.RowKit Go.Lib in
theorem Yba.slices_Clone_string_nil (n c : Nat) (w : World) :
    Calls Yba.prog 8 #[.slice none n c] w fun e w' => e = .returned (.slice none 0 0) ∧ w' = w := Any.slices_Clone_string_nil Yba.laysNm216 n c w
open Go.RowKit Go.Lib in
theorem Yba.slices_Clone_string_zero (a : Addr) (c : Nat) (w : World) :
    Calls Yba.prog 8 #[.slice (some a) 0 c] w fun e w' => ∃ v', e = .returned v' ∧ w'.ownsRow w.heap.size 9 1 v' 0 [] ∧ v' ≠ .slice none 0 0 ∧ Below w.heap.size w w' := Any.slices_Clone_string_zero Yba.laysNm216 a c w
open Go.RowKit Go.Lib in
theorem Yba.slices_Equal_string_lens (a1 a2 : Option Addr) (n c m d : Nat) (w : World) (hnm : n ≠ m) :
    Calls Yba.prog 12 #[.slice a1 n c, .slice a2 m d] w fun e w' => e = .returned (.bool false) ∧ w' = w := Any.slices_Equal_string_lens Yba.lays193 a1 a2 n c m d w hnm
def Yba.laysGg36_ren : Go.Shelf.Ren := ⟨fun | 36 => 58 | n => n, fun | 66 => 107 | 51 => 92 | 0 => 0 | 60 => 101 | 41 => 82 | n => n, fun | n => n⟩
theorem Yba.laysGg36 : Go.Proofs.LaysGg.n36 Yba.prog Yba.laysGg36_ren := {
  mixed := by kernel_rfl
  f36 := Yba.func58.trans (congrArg some (by kernel_rfl))
  t0 := Yba.underlying0
  a0 := Yba.isAgg0
  z0 := Yba.sizeOf0
  v0 := Yba.zeroValue0
  i0 := by kernel_rfl
  t41 := Yba.underlying82
  a41 := Yba.isAgg82
  z41 := Yba.sizeOf82
  v41 := Yba.zeroValue82
  i41 := by kernel_rfl
  t51 := Yba.underlying92
  a51 := Yba.isAgg92
  z51 := Yba.sizeOf92
  v51 := Yba.zeroValue92
  i51 := by kernel_rfl
  t60 := Yba.underlying101
  a60 := Yba.isAgg101
  z60 := Yba.sizeOf101
  v60 := Yba.zeroValue101
  i60 := by kernel_rfl
  t66 := Yba.underlying107
  a66 := Yba.isAgg107
  z66 := Yba.sizeOf107
  v66 := Yba.zeroValue107
  i66 := by kernel_rfl }
open Go.RowKit Go.Lib Go.Sort in
theorem Yba.xorshift_Next (rb ro X : Nat) (hX : X < 18446744073709551616) (w : World) (hc : w.cell? ⟨rb, ro, none⟩ = some (.int .u64 X)) (hf : w.frozen? ⟨rb, ro, none⟩ = false) :
    Calls Yba.prog 58 #[.pointer (some ⟨rb, ro, none⟩)] w fun e w' => e = .returned (.int .u64 (xorNextN X : Nat)) ∧ w' = (w.setCell ⟨rb, ro, none⟩ (.int .u64 (xorNextN X : Nat))).drewN 3 := Any.xorshift_Next Yba.laysGg36 rb ro X hX w hc hf
def Yba.laysGg35_ren : Go.Shelf.Ren := ⟨fun | 35 => 57 | 13 => 35 | 24 => 46 | 25 => 47 | n => n, fun | 3 => 3 | 41 => 82 | 49 => 86 | 51 => 92 | 4 => 4 | 5 => 5 | 9 => 9 | n => n, fun | n => n⟩
theorem Yba.laysGg35 : Go.Proofs.LaysGg.n35 Yba.prog Yba.laysGg35_ren := {
  mixed := by kernel_rfl
  f13 := Yba.func35.trans (congrArg some (by kernel_rfl))
  f24 := Yba.func46.trans (congrArg some (by kernel_rfl))
  f25 := Yba.func47.trans (congrArg some (by kernel_rfl))
  f35 := Yba.func57.trans (congrArg some (by kernel_rfl))
  t3 := Yba.underlying3
  a3 := Yba.isAgg3
  z3 := Yba.sizeOf3
  v3 := Yba.zeroValue3
  i3 := by kernel_rfl
  t4 := Yba.underlying4
  a4 := Yba.isAgg4
  z4 := Yba.sizeOf4
  v4 := Yba.zeroValue4
  i4 := by kernel_rfl
  t5 := Yba.underlying5
  a5 := Yba.isAgg5
  z5 := Yba.sizeOf5
  v5 := Yba.zeroValue5
  i5 := by kernel_rfl
  t9 := Yba.underlying9
  a9 := Yba.isAgg9
  z9 := Yba.sizeOf9
  v9 := Yba.zeroValue9
  i9 := by kernel_rfl
  t41 := Yba.underlying82
  a41 := Yba.isAgg82
  z41 := Yba.sizeOf82
  v41 := Yba.zeroValue82
  i41 := by kernel_rfl
  t49 := Yba.underlying86
  a49 := Yba.isAgg86
  z49 := Yba.sizeOf86
  v49 := Yba.zeroValue86
  i49 := by kernel_rfl
  t51 := Yba.underlying92
  a51 := Yba.isAgg92
  z51 := Yba.sizeOf92
  v51 := Yba.zeroValue92
  i51 := by kernel_rfl }
open Go.RowKit Go.Lib Go.Sort in
theorem Yba.nextPowerOfTwo (n : Nat) (hn : n < 4611686018427387904) (w : World) :
    Calls Yba.prog 57 #[.int .i64 n] w fun e w' => e = .returned (.int .u64 ((1 <<< bitsLen n : Nat) : Int)) ∧ w' = w := Any.nextPowerOfTwo Yba.laysGg35 n hn w
def Yba.laysGg34_ren : Go.Shelf.Ren := ⟨fun | 34 => 56 | n => n, fun | 44 => 85 | 3 => 3 | 0 => 0 | 4 => 4 | 26 => 64 | 37 => 79 | n => n, fun | n => n⟩
theorem Yba.laysGg34 : Go.Proofs.LaysGg.n34 Yba.prog Yba.laysGg34_ren := {
  mixed := by kernel_rfl
  f34 := Yba.func56.trans (congrArg some (by kernel_rfl))
  t0 := Yba.underlying0
  a0 := Yba.isAgg0
  z0 := Yba.sizeOf0
  v0 := Yba.zeroValue0
  i0 := by kernel_rfl
  t3 := Yba.underlying3
  a3 := Yba.isAgg3
  z3 := Yba.sizeOf3
  v3 := Yba.zeroValue3
  i3 := by kernel_rfl
  t4 := Yba.underlying4
  a4 := Yba.isAgg4
  z4 := Yba.sizeOf4
  v4 := Yba.zeroValue4
  i4 := by kernel_rfl
  t26 := Yba.underlying64
  a26 := Yba.isAgg64
  z26 := Yba.sizeOf64
  v26 := Yba.zeroValue64
  i26 := by kernel_rfl
  t37 := Yba.underlying79
  a37 := Yba.isAgg79
  z37 := Yba.sizeOf79
  v37 := Yba.zeroValue79
  i37 := by kernel_rfl
  t44 := Yba.underlying85
  a44 := Yba.isAgg85
  z44 := Yba.sizeOf85
  v44 := Yba.zeroValue85
  i44 := by kernel_rfl }
open Go.RowKit Go.Lib Go.Sort in
theorem Yba.siftDown_func_one {α : Type} [Inhabited α] (enc : α → Value) (lt : α → α → Bool) (g : Nat) (lb : Array Value) (sf : Nat) (sb : Array Value) (blk off lo hi first : Nat) (d : Array α) (w : World) (eg : ∀ args w, (callFunc g args).run Yba.prog w = .ok (.enter g args) w) (hless : LessReads Yba.prog g lb enc lt blk off d.size w) (hswap : SwapSwaps Yba.prog sf sb enc blk off d.size) (hH : Holds enc w blk off d) (hblk : blk < w.heap.size) (hlo : lo ≤ hi) (hb : first + hi ≤ d.size) (hsz : d.size < 4611686018427387904) :
    Calls Yba.prog 56 #[.agg #[.func (.func g) #[] lb, .func (.func sf) #[] sb], .int .i64 lo, .int .i64 hi, .int .i64 first] w fun e w' =>
      e = .returned (.tuple #[]) ∧ ∃ n, w' = putRow enc (Sort.ahead (w.alloc (.cells #[.func (.func g) #[] lb, .func (.func sf) #[] sb] 85)) n) blk off (siftDown lt hi first lo d) := Any.siftDown_func_one Yba.laysGg34 enc lt g lb sf sb blk off lo hi first d w eg hless hswap hH hblk hlo hb hsz
open Go.RowKit Go.Lib Go.Sort in
theorem Yba.siftDown_func_w {α : Type} [Inhabited α] (enc : α → Value) (lt : α → α → Bool) (g : Nat) (lb : Array Value) (sf : Nat) (sb : Array Value) (blk off lo hi first : Nat) (d : Array α) (w : World) (eg : ∀ args w, (callFunc g args).run Yba.prog w = .ok (.enter g args) w) (hless : LessReads Yba.prog g lb enc lt blk off d.size w) (hswap : SwapSwaps Yba.prog sf sb enc blk off d.size) (hH : Holds enc w blk off d) (hblk : blk < w.heap.size) (hlo : lo ≤ hi) (hb : first + hi ≤ d.size) (hsz : d.size < 4611686018427387904) :
    Calls Yba.prog 56 #[.agg #[.func (.func g) #[] lb, .func (.func sf) #[] sb], .int .i64 lo, .int .i64 hi, .int .i64 first] w fun e w' => e = .returned (.tuple #[]) ∧ ∃ n os, w' = sortWorld enc w blk off n (siftDown lt hi first lo d) os := Any.siftDown_func_w Yba.laysGg34 enc lt g lb sf sb blk off lo hi first d w eg hless hswap hH hblk hlo hb hsz
def Yba.laysGg27_ren : Go.Shelf.Ren := ⟨fun | 27 => 49 | 34 => 56 | n => n, fun | 44 => 85 | 3 => 3 | 0 => 0 | 4 => 4 | 37 => 79 | 26 => 64 | n => n, fun | n => n⟩
theorem Yba.laysGg27 : Go.Proofs.LaysGg.n27 Yba.prog Yba.laysGg27_ren := {
  mixed := by kernel_rfl
  f27 := Yba.func49.trans (congrArg some (by kernel_rfl))
  f34 := Yba.func56.trans (congrArg some (by kernel_rfl))
  t0 := Yba.underlying0
  a0 := Yba.isAgg0
  z0 := Yba.sizeOf0
  v0 := Yba.zeroValue0
  i0 := by kernel_rfl
  t3 := Yba.underlying3
  a3 := Yba.isAgg3
  z3 := Yba.sizeOf3
  v3 := Yba.zeroValue3
  i3 := by kernel_rfl
  t4 := Yba.underlying4
  a4 := Yba.isAgg4
  z4 := Yba.sizeOf4
  v4 := Yba.zeroValue4
  i4 := by kernel_rfl
  t26 := Yba.underlying64
  a26 := Yba.isAgg64
  z26 := Yba.sizeOf64
  v26 := Yba.zeroValue64
  i26 := by kernel_rfl
  t37 := Yba.underlying79
  a37 := Yba.isAgg79
  z37 := Yba.sizeOf79
  v37 := Yba.zeroValue79
  i37 := by kernel_rfl
  t44 := Yba.underlying85
  a44 := Yba.isAgg85
  z44 := Yba.sizeOf85
  v44 := Yba.zeroValue85
  i44 := by kernel_rfl }
open Go.RowKit Go.Lib Go.Sort in
theorem Yba.heapSort_func_w {α : Type} [Inhabited α] (enc : α → Value) (lt : α → α → Bool) (g : Nat) (lb : Array Value) (sf : Nat) (sb : Array Value) (blk off a b : Nat) (d : Array α) (w : World) (eg : ∀ args w, (callFunc g args).run Yba.prog w = .ok (.enter g args) w) (hless : LessReads Yba.prog g lb enc lt blk off d.size w) (hswap : SwapSwaps Yba.prog sf sb enc blk off d.size) (hH : Holds enc w blk off d) (hblk : blk < w.heap.size) (hab : a ≤ b) (hb : b ≤ d.size) (hsz : d.size < 4611686018427387904) :
    Calls Yba.prog 49 #[.agg #[.func (.func g) #[] lb, .func (.func sf) #[] sb], .int .i64 a, .int .i64 b] w fun e w' => e = .returned (.tuple #[]) ∧ ∃ n os, w' = sortWorld enc w blk off n (heapSort lt d a b) os := Any.heapSort_func_w Yba.laysGg27 enc lt g lb sf sb blk off a b d w eg hless hswap hH hblk hab hb hsz
def Yba.laysGg31_ren : Go.Shelf.Ren := ⟨fun | 31 => 53 | n => n, fun | 44 => 85 | 3 => 3 | 4 => 4 | 0 => 0 | 26 => 64 | 37 => 79 | n => n, fun | n => n⟩
theorem Yba.laysGg31 : Go.Proofs.LaysGg.n31 Yba.prog Yba.laysGg31_ren := {
  mixed := by kernel_rfl
  f31 := Yba.func53.trans (congrArg some (by kernel_rfl))
  t0 := Yba.underlying0
  a0 := Yba.isAgg0
  z0 := Yba.sizeOf0
  v0 := Yba.zeroValue0
  i0 := by kernel_rfl
  t3 := Yba.underlying3
  a3 := Yba.isAgg3
  z3 := Yba.sizeOf3
  v3 := Yba.zeroValue3
  i3 := by kernel_rfl
  t4 := Yba.underlying4
  a4 := Yba.isAgg4
  z4 := Yba.sizeOf4
  v4 := Yba.zeroValue4
  i4 := by kernel_rfl
  t26 := Yba.underlying64
  a26 := Yba.isAgg64
  z26 := Yba.sizeOf64
  v26 := Yba.zeroValue64
  i26 := by kernel_rfl
  t37 := Yba.underlying79
  a37 := Yba.isAgg79
  z37 := Yba.sizeOf79
  v37 := Yba.zeroValue79
  i37 := by kernel_rfl
  t44 := Yba.underlying85
  a44 := Yba.isAgg85
  z44 := Yba.sizeOf85
  v44 := Yba.zeroValue85
  i44 := by kernel_rfl }
open Go.RowKit Go.Lib Go.Sort in
theorem Yba.partialInsertionSort_func_one {α : Type} [Inhabited α] (enc : α → Value) (lt : α → α → Bool) (g : Nat) (lb : Array Value) (sf : Nat) (sb : Array Value) (blk off a b : Nat) (d : Array α) (w : World) (eg : ∀ args w, (callFunc g args).run Yba.prog w = .ok (.enter g args) w) (hless : LessReads Yba.prog g lb enc lt blk off d.size w) (hswap : SwapSwaps Yba.prog sf sb enc blk off d.size) (hH : Holds enc w blk off d) (hblk : blk < w.heap.size) (hab : a < b) (hb : b ≤ d.size) (hsz : d.size < 4611686018427387904) :
    Calls Yba.prog 53 #[.agg #[.func (.func g) #[] lb, .func (.func sf) #[] sb], .int .i64 a, .int .i64 b] w fun e w' =>
      e = .returned (.bool (Sort.partialInsertionSort lt d a b).2) ∧ ∃ n, w' = putRow enc (Sort.ahead (w.alloc (.cells #[.func (.func g) #[] lb, .func (.func sf) #[] sb] 85)) n) blk off (Sort.partialInsertionSort lt d a b).1 := Any.partialInsertionSort_func_one Yba.laysGg31 enc lt g lb sf sb blk off a b d w eg hless hswap hH hblk hab hb hsz
open Go.RowKit Go.Lib Go.Sort in
theorem Yba.partialInsertionSort_func_w {α : Type} [Inhabited α] (enc : α → Value) (lt : α → α → Bool) (g : Nat) (lb : Array Value) (sf : Nat) (sb : Array Value) (blk off a b : Nat) (d : Array α) (w : World) (eg : ∀ args w, (callFunc g args).run Yba.prog w = .ok (.enter g args) w) (hless : LessReads Yba.prog g lb enc lt blk off d.size w) (hswap : SwapSwaps Yba.prog sf sb enc blk off d.size) (hH : Holds enc w blk off d) (hblk : blk < w.heap.size) (hab : a < b) (hb : b ≤ d.size) (hsz : d.size < 4611686018427387904) :
    Calls Yba.prog 53 #[.agg #[.func (.func g) #[] lb, .func (.func sf) #[] sb], .int .i64 a, .int .i64 b] w fun e w' => e = .returned (.bool (Sort.partialInsertionSort lt d a b).2) ∧ ∃ n os, w' = sortWorld enc w blk off n (Sort.partialInsertionSort lt d a b).1 os := Any.partialInsertionSort_func_w Yba.laysGg31 enc lt g lb sf sb blk off a b d w eg hless hswap hH hblk hab hb hsz
def Yba.laysSlE041_f8_ren : Go.Shelf.Ren := ⟨fun | 41 => 8 | n => n, fun | 22 => 22 | 23 => 9 | 4 => 4 | n => n, fun | n => n⟩
theorem Yba.laysSlE041_f8 : Go.Proofs.SlLaysE0.n41 Yba.prog Yba.laysSlE041_f8_ren := {
  mixed := by kernel_rfl
  f41 := ⟨Yba.f8.name, by decide, Yba.func8.trans (congrArg some (by kernel_rfl))⟩
  t4 := Yba.underlying4
  a4 := Yba.isAgg4
  z4 := Yba.sizeOf4
  v4 := Yba.zeroValue4
  t22 := Yba.underlying22
  a22 := Yba.isAgg22
  z22 := Yba.sizeOf22
  v22 := Yba.zeroValue22 }
open Go.RowKit Go.Lib in
theorem Yba.slices_Clone_f8 (i0 : TypeInfo) (z : Value) (size bytes : Nat) (hi : Yba.prog.info? 9 = some i0) (hz0 : i0.zero = some z) (hz1 : i0.size = size) (hz2 : i0.bytes = bytes) (hzs : z.cells.size = size) (hsz : 0 < size) (z23 : ∀ w, (Go.sizeOf 9).run Yba.prog w = .ok size w) (b off n c : Nat) (news : List Value) (w : World) (hl : news.length = n * size) (hn : n ≤ maxLen) (hbig : n * bytes ≤ 140737488355328) (hc : ∀ j u, news[j]? = some u → w.cell? ⟨b, off + j, none⟩ = some u) (h1 : ∀ u ∈ news, u.oneCell' = true) :
    Calls Yba.prog 8 #[.slice (some ⟨b, off, none⟩) n c] w fun e w' => ∃ v', e = .returned v' ∧ w'.ownsRow w.heap.size 9 size v' n news ∧ v' ≠ .slice none 0 0 ∧ Below w.heap.size w w' := AnyE.slices_Clone Yba.laysSlE041_f8 i0 z size bytes hi hz0 hz1 hz2 hzs hsz z23 b off n c news w hl hn hbig hc h1
def Yba.laysSlE041_f9_ren : Go.Shelf.Ren := ⟨fun | 41 => 9 | n => n, fun | 22 => 24 | 23 => 4 | 4 => 4 | n => n, fun | n => n⟩
theorem Yba.laysSlE041_f9 : Go.Proofs.SlLaysE0.n41 Yba.prog Yba.laysSlE041_f9_ren := {
  mixed := by kernel_rfl
  f41 := ⟨Yba.f9.name, by decide, Yba.func9.trans (congrArg some (by kernel_rfl))⟩
  t4 := Yba.underlying4
  a4 := Yba.isAgg4
  z4 := Yba.sizeOf4
  v4 := Yba.zeroValue4
  t22 := Yba.underlying24
  a22 := Yba.isAgg24
  z22 := Yba.sizeOf24
  v22 := Yba.zeroValue24 }
open Go.RowKit Go.Lib in
theorem Yba.slices_Clone_f9 (i0 : TypeInfo) (z : Value) (size bytes : Nat) (hi : Yba.prog.info? 4 = some i0) (hz0 : i0.zero = some z) (hz1 : i0.size = size) (hz2 : i0.bytes = bytes) (hzs : z.cells.size = size) (hsz : 0 < size) (z23 : ∀ w, (Go.sizeOf 4).run Yba.prog w = .ok size w) (b off n c : Nat) (news : List Value) (w : World) (hl : news.length = n * size) (hn : n ≤ maxLen) (hbig : n * bytes ≤ 140737488355328) (hc : ∀ j u, news[j]? = some u → w.cell? ⟨b, off + j, none⟩ = some u) (h1 : ∀ u ∈ news, u.oneCell' = true) :
    Calls Yba.prog 9 #[.slice (some ⟨b, off, none⟩) n c] w fun e w' => ∃ v', e = .returned v' ∧ w'.ownsRow w.heap.size 4 size v' n news ∧ v' ≠ .slice none 0 0 ∧ Below w.heap.size w w' := AnyE.slices_Clone Yba.laysSlE041_f9 i0 z size bytes hi hz0 hz1 hz2 hzs hsz z23 b off n c news w hl hn hbig hc h1
open Go.RowKit Go.Lib in
theorem Yba.slices_Clone_nil_f8 (n c : Nat) (w : World) :
    Calls Yba.prog 8 #[.slice none n c] w fun e w' => e = .returned (.slice none 0 0) ∧ w' = w := AnyE.slices_Clone_nil Yba.laysSlE041_f8 n c w
open Go.RowKit Go.Lib in
theorem Yba.slices_Clone_nil_f9 (n c : Nat) (w : World) :
    Calls Yba.prog 9 #[.slice none n c] w fun e w' => e = .returned (.slice none 0 0) ∧ w' = w := AnyE.slices_Clone_nil Yba.laysSlE041_f9 n c w
end Go.Proofs
