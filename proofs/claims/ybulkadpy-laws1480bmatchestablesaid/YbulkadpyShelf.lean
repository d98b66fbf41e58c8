/-
  The shelf's contracts of bits.Len, slices.Sort, Compact, Equal at []int, laid at this dump in plain words (written by the kit's lay-shelf.mjs and lay-plain.mjs for this program; cut to these).
-/
import Derived.Shelf.Small.Bits
import Derived.Shelf.Sort.Plain
import Derived.Shelf.Slices.Equal
import Derived.Shelf.Slices.CompactI
import Derived.Shelf.Slices.In.SortNone
import Derived.Shelf.Slices.Empties2
import Derived.Test.YbulkadpyProg
namespace Go.Proofs
open Go.Shelf
def Yba.lays125_ren : Go.Shelf.Ren := ⟨fun | 125 => 19 | 128 => 39 | 129 => 40 | n => n, fun | 46 => 77 | 3 => 3 | 51 => 119 | 53 => 121 | 4 => 4 | 5 => 5 | 9 => 9 | n => n, fun | n => n⟩
theorem Yba.lays125 : Go.Proofs.Lays.n125 Yba.prog Yba.lays125_ren := {
  mixed := by kernel_rfl
  f125 := Yba.func19.trans (congrArg some (by kernel_rfl))
  f128 := Yba.func39.trans (congrArg some (by kernel_rfl))
  f129 := Yba.func40.trans (congrArg some (by kernel_rfl))
  t3 := Yba.underlying3
  a3 := Yba.isAgg3
  z3 := Yba.sizeOf3
  v3 := Yba.zeroValue3
  t4 := Yba.underlying4
  a4 := Yba.isAgg4
  z4 := Yba.sizeOf4
  v4 := Yba.zeroValue4
  t5 := Yba.underlying5
  a5 := Yba.isAgg5
  z5 := Yba.sizeOf5
  v5 := Yba.zeroValue5
  t9 := Yba.underlying9
  a9 := Yba.isAgg9
  z9 := Yba.sizeOf9
  v9 := Yba.zeroValue9
  t46 := Yba.underlying77
  a46 := Yba.isAgg77
  z46 := Yba.sizeOf77
  v46 := Yba.zeroValue77
  t51 := Yba.underlying119
  a51 := Yba.isAgg119
  z51 := Yba.sizeOf119
  v51 := Yba.zeroValue119
  t53 := Yba.underlying121
  a53 := Yba.isAgg121
  z53 := Yba.sizeOf121
  v53 := Yba.zeroValue121 }
/-- bits.Len: "Len returns the minimum number of bits required to represent x; the result is 0 for x == 0.": IT RETURNS 'Lib.bitLen x'; the world is as it was. (A uint has 64 bits in the model.) ITS CALLEE bits.Len64 IS MET BY ITS OWN CONTRACT OFF THE SHELF (lay that first). (LAID: no walk: one application.) -/
theorem Yba.bits_Len (x : Int) (w : World) (h0 : 0 ≤ x) (h1 : x ≤ 18446744073709551615) :
    Calls Yba.prog 19 #[.int .u64 x] w fun e w' => e = .returned (.int .i64 (Lib.bitLen x.toNat)) ∧ w' = w := Any.bits_Len Yba.lays125 x w h0 h1
def Yba.lays189_ren : Go.Shelf.Ren := ⟨fun | 189 => 9 | 125 => 19 | 257 => 18 | 128 => 39 | 129 => 40 | 294 => 30 | 295 => 31 | 296 => 32 | 297 => 33 | 298 => 34 | 299 => 35 | 216 => 36 | 300 => 37 | 301 => 38 | 328 => 55 | 329 => 56 | 330 => 57 | 331 => 58 | 332 => 59 | 215 => 60 | 343 => 67 | n => n, fun | 28 => 74 | 3 => 3 | 46 => 77 | 0 => 0 | 51 => 119 | 53 => 121 | 4 => 4 | 183 => 111 | 182 => 110 | 131 => 116 | 5 => 5 | 9 => 9 | 218 => 141 | 222 => 145 | 228 => 156 | 229 => 157 | n => n, fun | n => n⟩
theorem Yba.lays189 : Go.Proofs.Lays.n189 Yba.prog Yba.lays189_ren := {
  mixed := by kernel_rfl
  f125 := Yba.func19.trans (congrArg some (by kernel_rfl))
  f128 := Yba.func39.trans (congrArg some (by kernel_rfl))
  f129 := Yba.func40.trans (congrArg some (by kernel_rfl))
  f189 := Yba.func9.trans (congrArg some (by kernel_rfl))
  f215 := Yba.func60.trans (congrArg some (by kernel_rfl))
  f216 := Yba.func36.trans (congrArg some (by kernel_rfl))
  f257 := Yba.func18.trans (congrArg some (by kernel_rfl))
  f294 := Yba.func30.trans (congrArg some (by kernel_rfl))
  f295 := Yba.func31.trans (congrArg some (by kernel_rfl))
  f296 := Yba.func32.trans (congrArg some (by kernel_rfl))
  f297 := Yba.func33.trans (congrArg some (by kernel_rfl))
  f298 := Yba.func34.trans (congrArg some (by kernel_rfl))
  f299 := Yba.func35.trans (congrArg some (by kernel_rfl))
  f300 := Yba.func37.trans (congrArg some (by kernel_rfl))
  f301 := Yba.func38.trans (congrArg some (by kernel_rfl))
  f328 := Yba.func55.trans (congrArg some (by kernel_rfl))
  f329 := Yba.func56.trans (congrArg some (by kernel_rfl))
  f330 := Yba.func57.trans (congrArg some (by kernel_rfl))
  f331 := Yba.func58.trans (congrArg some (by kernel_rfl))
  f332 := Yba.func59.trans (congrArg some (by kernel_rfl))
  f343 := Yba.func67.trans (congrArg some (by kernel_rfl))
  t0 := Yba.underlying0
  a0 := Yba.isAgg0
  z0 := Yba.sizeOf0
  v0 := Yba.zeroValue0
  t3 := Yba.underlying3
  a3 := Yba.isAgg3
  z3 := Yba.sizeOf3
  v3 := Yba.zeroValue3
  t4 := Yba.underlying4
  a4 := Yba.isAgg4
  z4 := Yba.sizeOf4
  v4 := Yba.zeroValue4
  t5 := Yba.underlying5
  a5 := Yba.isAgg5
  z5 := Yba.sizeOf5
  v5 := Yba.zeroValue5
  t9 := Yba.underlying9
  a9 := Yba.isAgg9
  z9 := Yba.sizeOf9
  v9 := Yba.zeroValue9
  t28 := Yba.underlying74
  a28 := Yba.isAgg74
  z28 := Yba.sizeOf74
  v28 := Yba.zeroValue74
  t46 := Yba.underlying77
  a46 := Yba.isAgg77
  z46 := Yba.sizeOf77
  v46 := Yba.zeroValue77
  t51 := Yba.underlying119
  a51 := Yba.isAgg119
  z51 := Yba.sizeOf119
  v51 := Yba.zeroValue119
  t53 := Yba.underlying121
  a53 := Yba.isAgg121
  z53 := Yba.sizeOf121
  v53 := Yba.zeroValue121
  t131 := Yba.underlying116
  a131 := Yba.isAgg116
  z131 := Yba.sizeOf116
  v131 := Yba.zeroValue116
  t182 := Yba.underlying110
  a182 := Yba.isAgg110
  z182 := Yba.sizeOf110
  v182 := Yba.zeroValue110
  t183 := Yba.underlying111
  a183 := Yba.isAgg111
  z183 := Yba.sizeOf111
  v183 := Yba.zeroValue111
  t218 := Yba.underlying141
  a218 := Yba.isAgg141
  z218 := Yba.sizeOf141
  v218 := Yba.zeroValue141
  t222 := Yba.underlying145
  a222 := Yba.isAgg145
  z222 := Yba.sizeOf145
  v222 := Yba.zeroValue145
  t228 := Yba.underlying156
  a228 := Yba.isAgg156
  z228 := Yba.sizeOf156
  v228 := Yba.zeroValue156
  t229 := Yba.underlying157
  a229 := Yba.isAgg157
  z229 := Yba.sizeOf157
  v229 := Yba.zeroValue157 }
open Go.Sort Go.RowKit in
theorem Yba.slices_Sort_int (blk off cap : Nat) (zs : List Int) (w : World) (hH : Holds (Value.int .i64) w blk off zs.toArray) (hblk : blk < w.heap.size) (hsz : zs.length < 4611686018427387904) :
    Calls Yba.prog 9 #[.slice (some ⟨blk, off, none⟩) zs.length cap] w fun e w' =>
      e = .returned (.tuple #[]) ∧ ∃ n os, w' = grow (putRow (Value.int .i64) (Sort.ahead w n) blk off (zs.mergeSort fun x y => decide (x ≤ y)).toArray) os := Any.slices_Sort_int Yba.lays189 blk off cap zs w hH hblk hsz
def Yba.lays111_ren : Go.Shelf.Ren := ⟨fun | 111 => 11 | n => n, fun | 28 => 74 | 3 => 3 | 4 => 4 | 0 => 0 | n => n, fun | n => n⟩
theorem Yba.lays111 : Go.Proofs.Lays.n111 Yba.prog Yba.lays111_ren := {
  mixed := by kernel_rfl
  f111 := Yba.func11.trans (congrArg some (by kernel_rfl))
  t0 := Yba.underlying0
  a0 := Yba.isAgg0
  z0 := Yba.sizeOf0
  v0 := Yba.zeroValue0
  t3 := Yba.underlying3
  a3 := Yba.isAgg3
  z3 := Yba.sizeOf3
  v3 := Yba.zeroValue3
  t4 := Yba.underlying4
  a4 := Yba.isAgg4
  z4 := Yba.sizeOf4
  v4 := Yba.zeroValue4
  t28 := Yba.underlying74
  a28 := Yba.isAgg74
  z28 := Yba.sizeOf74
  v28 := Yba.zeroValue74 }
open Go.RowKit Go.Lib in
theorem Yba.slices_Equal_int (b1 o1 n c b2 o2 m d : Nat) (xs ys : List Int) (w : World) (hx : n ≤ xs.length) (hy : m ≤ ys.length) (hbig : n ≤ 9223372036854775807) (hbig2 : m ≤ 9223372036854775807) (hc1 : ∀ j, j < xs.length → w.cell? ⟨b1, o1 + j, none⟩ = some (.int .i64 (xs.getD j 0))) (hc2 : ∀ j, j < ys.length → w.cell? ⟨b2, o2 + j, none⟩ = some (.int .i64 (ys.getD j 0))) :
    Calls Yba.prog 11 #[.slice (some ⟨b1, o1, none⟩) n c, .slice (some ⟨b2, o2, none⟩) m d] w fun e w' => e = .returned (.bool (xs.take n == ys.take m)) ∧ ∃ q, w' = w.drewN q := Any.slices_Equal_int Yba.lays111 b1 o1 n c b2 o2 m d xs ys w hx hy hbig hbig2 hc1 hc2
open Go.RowKit Go.Lib in
theorem Yba.slices_Equal_int_empty (a1 a2 : Option Addr) (c m d : Nat) (w : World) (hbig2 : m ≤ 9223372036854775807) :
    Calls Yba.prog 11 #[.slice a1 0 c, .slice a2 m d] w fun e w' => e = .returned (.bool (decide (m = 0))) ∧ w' = w := Any.slices_Equal_int_empty Yba.lays111 a1 a2 c m d w hbig2
def Yba.laysNm220_ren : Go.Shelf.Ren := ⟨fun | 20 => 10 | n => n, fun | 22 => 74 | 3 => 3 | 4 => 4 | 0 => 0 | n => n, fun | n => n⟩
theorem Yba.laysNm220 : Go.Proofs.Lays2.n20 Yba.prog Yba.laysNm220_ren := {
  mixed := by kernel_rfl
  f20 := Yba.func10.trans (congrArg some (by kernel_rfl))
  t0 := Yba.underlying0
  a0 := Yba.isAgg0
  z0 := Yba.sizeOf0
  v0 := Yba.zeroValue0
  t3 := Yba.underlying3
  a3 := Yba.isAgg3
  z3 := Yba.sizeOf3
  v3 := Yba.zeroValue3
  t4 := Yba.underlying4
  a4 := Yba.isAgg4
  z4 := Yba.sizeOf4
  v4 := Yba.zeroValue4
  t22 := Yba.underlying74
  a22 := Yba.isAgg74
  z22 := Yba.sizeOf74
  v22 := Yba.zeroValue74
  i3 := by kernel_rfl }
open Go.RowKit Go.Lib Go.Sort in
theorem Yba.slices_Compact_int (blk off cap : Nat) (zs : List Int) (w : World) (hH : Holds (Value.int .i64) w blk off zs.toArray) (hsz : zs.length ≤ 9223372036854775807) (hcap : zs.length ≤ cap) :
    Calls Yba.prog 10 #[.slice (some ⟨blk, off, none⟩) zs.length cap] w fun e w' => e = .returned (.slice (some ⟨blk, off, none⟩) (Lib.compact zs).length cap) ∧ ∃ q, w' = putRow (Value.int .i64) (Sort.ahead w q) blk off (Lib.compact zs ++ List.replicate (zs.length - (Lib.compact zs).length) 0).toArray := Any.slices_Compact_int Yba.laysNm220 blk off cap zs w hH hsz hcap
open Go.RowKit Go.Lib Go.Sort in
theorem Yba.slices_Compact_int_empty (a : Option Addr) (cap : Nat) (w : World) :
    Calls Yba.prog 10 #[.slice a 0 cap] w fun e w' => e = .returned (.slice a 0 cap) ∧ w' = w := Any.slices_Compact_int_empty Yba.laysNm220 a cap w
open Go.RowKit Go.Sort in
theorem Yba.slices_Sort_int_none (p : Option Addr) (cap : Nat) (w : World) :
    Calls Yba.prog 9 #[.slice p 0 cap] w fun e w' => e = .returned (.tuple #[]) ∧ w' = w := Any.slices_Sort_int_none Yba.lays189 p cap w
end Go.Proofs
