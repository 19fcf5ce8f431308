/- The library contracts of slices.Sort and slices.Compact at slices of int, laid at this program by the tools of the shelf, in plain words. -/
import Derived.Shelf.Sort.Plain
import Derived.Shelf.Slices.In.SortNone
import Derived.Shelf.Slices.CompactI
import Derived.Test.YbulkcgrsProg
namespace Go.Proofs
open Go.Shelf
def Yba.lays189_ren : Go.Shelf.Ren := ⟨fun | 189 => 15 | 125 => 21 | 257 => 20 | 128 => 34 | 129 => 35 | 294 => 25 | 295 => 26 | 296 => 27 | 297 => 28 | 298 => 29 | 299 => 30 | 216 => 31 | 300 => 32 | 301 => 33 | 328 => 37 | 329 => 38 | 330 => 39 | 331 => 40 | 332 => 41 | 215 => 42 | 343 => 45 | n => n, fun | 28 => 22 | 3 => 3 | 46 => 43 | 0 => 0 | 51 => 101 | 53 => 74 | 4 => 4 | 183 => 94 | 182 => 93 | 131 => 98 | 5 => 5 | 9 => 9 | 218 => 104 | 222 => 40 | 228 => 112 | 229 => 113 | n => n, fun | n => n⟩
theorem Yba.lays189 : Go.Proofs.Lays.n189 Yba.prog Yba.lays189_ren := {
  mixed := by kernel_rfl
  f125 := Yba.func21.trans (congrArg some (by kernel_rfl))
  f128 := Yba.func34.trans (congrArg some (by kernel_rfl))
  f129 := Yba.func35.trans (congrArg some (by kernel_rfl))
  f189 := Yba.func15.trans (congrArg some (by kernel_rfl))
  f215 := Yba.func42.trans (congrArg some (by kernel_rfl))
  f216 := Yba.func31.trans (congrArg some (by kernel_rfl))
  f257 := Yba.func20.trans (congrArg some (by kernel_rfl))
  f294 := Yba.func25.trans (congrArg some (by kernel_rfl))
  f295 := Yba.func26.trans (congrArg some (by kernel_rfl))
  f296 := Yba.func27.trans (congrArg some (by kernel_rfl))
  f297 := Yba.func28.trans (congrArg some (by kernel_rfl))
  f298 := Yba.func29.trans (congrArg some (by kernel_rfl))
  f299 := Yba.func30.trans (congrArg some (by kernel_rfl))
  f300 := Yba.func32.trans (congrArg some (by kernel_rfl))
  f301 := Yba.func33.trans (congrArg some (by kernel_rfl))
  f328 := Yba.func37.trans (congrArg some (by kernel_rfl))
  f329 := Yba.func38.trans (congrArg some (by kernel_rfl))
  f330 := Yba.func39.trans (congrArg some (by kernel_rfl))
  f331 := Yba.func40.trans (congrArg some (by kernel_rfl))
  f332 := Yba.func41.trans (congrArg some (by kernel_rfl))
  f343 := Yba.func45.trans (congrArg some (by kernel_rfl))
  t0 := Yba.underlying0
  a0 := Yba.isAgg0
  z0 := Yba.sizeOf0
  v0 := Yba.zeroValue0
  t3 := Yba.underlying3
  a3 := Yba.isAgg3
  z3 := Yba.sizeOf3
  v3 := Yba.zeroValue3
  t4 := Yba.underlying4
  a4 := Yba.isAgg4
  z4 := Yba.sizeOf4
  v4 := Yba.zeroValue4
  t5 := Yba.underlying5
  a5 := Yba.isAgg5
  z5 := Yba.sizeOf5
  v5 := Yba.zeroValue5
  t9 := Yba.underlying9
  a9 := Yba.isAgg9
  z9 := Yba.sizeOf9
  v9 := Yba.zeroValue9
  t28 := Yba.underlying22
  a28 := Yba.isAgg22
  z28 := Yba.sizeOf22
  v28 := Yba.zeroValue22
  t46 := Yba.underlying43
  a46 := Yba.isAgg43
  z46 := Yba.sizeOf43
  v46 := Yba.zeroValue43
  t51 := Yba.underlying101
  a51 := Yba.isAgg101
  z51 := Yba.sizeOf101
  v51 := Yba.zeroValue101
  t53 := Yba.underlying74
  a53 := Yba.isAgg74
  z53 := Yba.sizeOf74
  v53 := Yba.zeroValue74
  t131 := Yba.underlying98
  a131 := Yba.isAgg98
  z131 := Yba.sizeOf98
  v131 := Yba.zeroValue98
  t182 := Yba.underlying93
  a182 := Yba.isAgg93
  z182 := Yba.sizeOf93
  v182 := Yba.zeroValue93
  t183 := Yba.underlying94
  a183 := Yba.isAgg94
  z183 := Yba.sizeOf94
  v183 := Yba.zeroValue94
  t218 := Yba.underlying104
  a218 := Yba.isAgg104
  z218 := Yba.sizeOf104
  v218 := Yba.zeroValue104
  t222 := Yba.underlying40
  a222 := Yba.isAgg40
  z222 := Yba.sizeOf40
  v222 := Yba.zeroValue40
  t228 := Yba.underlying112
  a228 := Yba.isAgg112
  z228 := Yba.sizeOf112
  v228 := Yba.zeroValue112
  t229 := Yba.underlying113
  a229 := Yba.isAgg113
  z229 := Yba.sizeOf113
  v229 := Yba.zeroValue113 }
open Go.Sort Go.RowKit in
theorem Yba.slices_Sort_int (blk off cap : Nat) (zs : List Int) (w : World) (hH : Holds (Value.int .i64) w blk off zs.toArray) (hblk : blk < w.heap.size) (hsz : zs.length < 4611686018427387904) :
    Calls Yba.prog 15 #[.slice (some ⟨blk, off, none⟩) zs.length cap] w fun e w' =>
      e = .returned (.tuple #[]) ∧ ∃ n os, w' = grow (putRow (Value.int .i64) (Sort.ahead w n) blk off (zs.mergeSort fun x y => decide (x ≤ y)).toArray) os := Any.slices_Sort_int Yba.lays189 blk off cap zs w hH hblk hsz
def Yba.laysNm220_ren : Go.Shelf.Ren := ⟨fun | 20 => 16 | n => n, fun | 22 => 22 | 3 => 3 | 4 => 4 | 0 => 0 | n => n, fun | n => n⟩
theorem Yba.laysNm220 : Go.Proofs.Lays2.n20 Yba.prog Yba.laysNm220_ren := {
  mixed := by kernel_rfl
  f20 := Yba.func16.trans (congrArg some (by kernel_rfl))
  t0 := Yba.underlying0
  a0 := Yba.isAgg0
  z0 := Yba.sizeOf0
  v0 := Yba.zeroValue0
  t3 := Yba.underlying3
  a3 := Yba.isAgg3
  z3 := Yba.sizeOf3
  v3 := Yba.zeroValue3
  t4 := Yba.underlying4
  a4 := Yba.isAgg4
  z4 := Yba.sizeOf4
  v4 := Yba.zeroValue4
  t22 := Yba.underlying22
  a22 := Yba.isAgg22
  z22 := Yba.sizeOf22
  v22 := Yba.zeroValue22
  i3 := by kernel_rfl }
open Go.RowKit Go.Lib Go.Sort in
theorem Yba.slices_Compact_int (blk off cap : Nat) (zs : List Int) (w : World) (hH : Holds (Value.int .i64) w blk off zs.toArray) (hsz : zs.length ≤ 9223372036854775807) (hcap : zs.length ≤ cap) :
    Calls Yba.prog 16 #[.slice (some ⟨blk, off, none⟩) zs.length cap] w fun e w' => e = .returned (.slice (some ⟨blk, off, none⟩) (Lib.compact zs).length cap) ∧ ∃ q, w' = putRow (Value.int .i64) (Sort.ahead w q) blk off (Lib.compact zs ++ List.replicate (zs.length - (Lib.compact zs).length) 0).toArray := Any.slices_Compact_int Yba.laysNm220 blk off cap zs w hH hsz hcap
open Go.RowKit Go.Lib Go.Sort in
theorem Yba.slices_Compact_int_empty (a : Option Addr) (cap : Nat) (w : World) :
    Calls Yba.prog 16 #[.slice a 0 cap] w fun e w' => e = .returned (.slice a 0 cap) ∧ w' = w := Any.slices_Compact_int_empty Yba.laysNm220 a cap w
open Go.RowKit Go.Sort in
theorem Yba.slices_Sort_int_none (p : Option Addr) (cap : Nat) (w : World) :
    Calls Yba.prog 15 #[.slice p 0 cap] w fun e w' => e = .returned (.tuple #[]) ∧ w' = w := Any.slices_Sort_int_none Yba.lays189 p cap w
end Go.Proofs
