/- The contracts of sort.Strings, slices.Sort and slices.Compact at this program, out of the kit (proved there once over any program): laid by the kit tool, in plain words. -/
import Derived.Shelf.Sort.Plain
import Derived.Shelf.Slices.CompactS
import Derived.Shelf.Slices.In.SortNone
import Derived.Shelf.Slices.In.SortNone2
import Derived.Test.Qxb6626329aProg
namespace Go.Proofs
open Go.Shelf
def Try.lays190_ren : Go.Shelf.Ren := ⟨fun | 190 => 21 | 125 => 23 | 258 => 22 | 128 => 33 | 129 => 34 | 302 => 24 | 303 => 25 | 304 => 26 | 305 => 27 | 306 => 28 | 307 => 29 | 308 => 30 | 309 => 31 | 310 => 32 | 333 => 35 | 329 => 36 | 330 => 37 | 334 => 38 | 335 => 39 | 336 => 40 | 344 => 41 | n => n, fun | 31 => 22 | 9 => 9 | 3 => 3 | 46 => 45 | 0 => 0 | 51 => 56 | 53 => 58 | 4 => 4 | 183 => 48 | 182 => 47 | 131 => 53 | 5 => 5 | 218 => 59 | 222 => 63 | 228 => 66 | 229 => 67 | n => n, fun | n => n⟩
theorem Try.lays190 : Go.Proofs.Lays.n190 Try.prog Try.lays190_ren := {
  mixed := by kernel_rfl
  f125 := Try.func23.trans (congrArg some (by kernel_rfl))
  f128 := Try.func33.trans (congrArg some (by kernel_rfl))
  f129 := Try.func34.trans (congrArg some (by kernel_rfl))
  f190 := Try.func21.trans (congrArg some (by kernel_rfl))
  f258 := Try.func22.trans (congrArg some (by kernel_rfl))
  f302 := Try.func24.trans (congrArg some (by kernel_rfl))
  f303 := Try.func25.trans (congrArg some (by kernel_rfl))
  f304 := Try.func26.trans (congrArg some (by kernel_rfl))
  f305 := Try.func27.trans (congrArg some (by kernel_rfl))
  f306 := Try.func28.trans (congrArg some (by kernel_rfl))
  f307 := Try.func29.trans (congrArg some (by kernel_rfl))
  f308 := Try.func30.trans (congrArg some (by kernel_rfl))
  f309 := Try.func31.trans (congrArg some (by kernel_rfl))
  f310 := Try.func32.trans (congrArg some (by kernel_rfl))
  f329 := Try.func36.trans (congrArg some (by kernel_rfl))
  f330 := Try.func37.trans (congrArg some (by kernel_rfl))
  f333 := Try.func35.trans (congrArg some (by kernel_rfl))
  f334 := Try.func38.trans (congrArg some (by kernel_rfl))
  f335 := Try.func39.trans (congrArg some (by kernel_rfl))
  f336 := Try.func40.trans (congrArg some (by kernel_rfl))
  f344 := Try.func41.trans (congrArg some (by kernel_rfl))
  t0 := Try.underlying0
  a0 := Try.isAgg0
  z0 := Try.sizeOf0
  v0 := Try.zeroValue0
  t3 := Try.underlying3
  a3 := Try.isAgg3
  z3 := Try.sizeOf3
  v3 := Try.zeroValue3
  t4 := Try.underlying4
  a4 := Try.isAgg4
  z4 := Try.sizeOf4
  v4 := Try.zeroValue4
  t5 := Try.underlying5
  a5 := Try.isAgg5
  z5 := Try.sizeOf5
  v5 := Try.zeroValue5
  t9 := Try.underlying9
  a9 := Try.isAgg9
  z9 := Try.sizeOf9
  v9 := Try.zeroValue9
  t31 := Try.underlying22
  a31 := Try.isAgg22
  z31 := Try.sizeOf22
  v31 := Try.zeroValue22
  t46 := Try.underlying45
  a46 := Try.isAgg45
  z46 := Try.sizeOf45
  v46 := Try.zeroValue45
  t51 := Try.underlying56
  a51 := Try.isAgg56
  z51 := Try.sizeOf56
  v51 := Try.zeroValue56
  t53 := Try.underlying58
  a53 := Try.isAgg58
  z53 := Try.sizeOf58
  v53 := Try.zeroValue58
  t131 := Try.underlying53
  a131 := Try.isAgg53
  z131 := Try.sizeOf53
  v131 := Try.zeroValue53
  t182 := Try.underlying47
  a182 := Try.isAgg47
  z182 := Try.sizeOf47
  v182 := Try.zeroValue47
  t183 := Try.underlying48
  a183 := Try.isAgg48
  z183 := Try.sizeOf48
  v183 := Try.zeroValue48
  t218 := Try.underlying59
  a218 := Try.isAgg59
  z218 := Try.sizeOf59
  v218 := Try.zeroValue59
  t222 := Try.underlying63
  a222 := Try.isAgg63
  z222 := Try.sizeOf63
  v222 := Try.zeroValue63
  t228 := Try.underlying66
  a228 := Try.isAgg66
  z228 := Try.sizeOf66
  v228 := Try.zeroValue66
  t229 := Try.underlying67
  a229 := Try.isAgg67
  z229 := Try.sizeOf67
  v229 := Try.zeroValue67 }
open Go.Sort Go.RowKit in
theorem Try.slices_Sort_string (blk off cap : Nat) (ss : List (List UInt8)) (w : World) (hH : Holds encStr w blk off ss.toArray) (hblk : blk < w.heap.size) (hsz : ss.length < 4611686018427387904) :
    Calls Try.prog 21 #[.slice (some ⟨blk, off, none⟩) ss.length cap] w fun e w' =>
      e = .returned (.tuple #[]) ∧ ∃ n os, w' = grow (putRow encStr (Sort.ahead w n) blk off (ss.mergeSort fun x y => decide (x ≤ y)).toArray) os := Any.slices_Sort_string Try.lays190 blk off cap ss w hH hblk hsz
def Try.lays192_ren : Go.Shelf.Ren := ⟨fun | 192 => 17 | 190 => 21 | 125 => 23 | 258 => 22 | 128 => 33 | 129 => 34 | 302 => 24 | 303 => 25 | 304 => 26 | 305 => 27 | 306 => 28 | 307 => 29 | 308 => 30 | 309 => 31 | 310 => 32 | 333 => 35 | 329 => 36 | 330 => 37 | 334 => 38 | 335 => 39 | 336 => 40 | 344 => 41 | n => n, fun | 31 => 22 | 0 => 0 | 9 => 9 | 3 => 3 | 46 => 45 | 51 => 56 | 53 => 58 | 4 => 4 | 183 => 48 | 182 => 47 | 131 => 53 | 5 => 5 | 218 => 59 | 222 => 63 | 228 => 66 | 229 => 67 | n => n, fun | n => n⟩
theorem Try.lays192 : Go.Proofs.Lays.n192 Try.prog Try.lays192_ren := {
  mixed := by kernel_rfl
  f125 := Try.func23.trans (congrArg some (by kernel_rfl))
  f128 := Try.func33.trans (congrArg some (by kernel_rfl))
  f129 := Try.func34.trans (congrArg some (by kernel_rfl))
  f190 := Try.func21.trans (congrArg some (by kernel_rfl))
  f192 := Try.func17.trans (congrArg some (by kernel_rfl))
  f258 := Try.func22.trans (congrArg some (by kernel_rfl))
  f302 := Try.func24.trans (congrArg some (by kernel_rfl))
  f303 := Try.func25.trans (congrArg some (by kernel_rfl))
  f304 := Try.func26.trans (congrArg some (by kernel_rfl))
  f305 := Try.func27.trans (congrArg some (by kernel_rfl))
  f306 := Try.func28.trans (congrArg some (by kernel_rfl))
  f307 := Try.func29.trans (congrArg some (by kernel_rfl))
  f308 := Try.func30.trans (congrArg some (by kernel_rfl))
  f309 := Try.func31.trans (congrArg some (by kernel_rfl))
  f310 := Try.func32.trans (congrArg some (by kernel_rfl))
  f329 := Try.func36.trans (congrArg some (by kernel_rfl))
  f330 := Try.func37.trans (congrArg some (by kernel_rfl))
  f333 := Try.func35.trans (congrArg some (by kernel_rfl))
  f334 := Try.func38.trans (congrArg some (by kernel_rfl))
  f335 := Try.func39.trans (congrArg some (by kernel_rfl))
  f336 := Try.func40.trans (congrArg some (by kernel_rfl))
  f344 := Try.func41.trans (congrArg some (by kernel_rfl))
  t0 := Try.underlying0
  a0 := Try.isAgg0
  z0 := Try.sizeOf0
  v0 := Try.zeroValue0
  t3 := Try.underlying3
  a3 := Try.isAgg3
  z3 := Try.sizeOf3
  v3 := Try.zeroValue3
  t4 := Try.underlying4
  a4 := Try.isAgg4
  z4 := Try.sizeOf4
  v4 := Try.zeroValue4
  t5 := Try.underlying5
  a5 := Try.isAgg5
  z5 := Try.sizeOf5
  v5 := Try.zeroValue5
  t9 := Try.underlying9
  a9 := Try.isAgg9
  z9 := Try.sizeOf9
  v9 := Try.zeroValue9
  t31 := Try.underlying22
  a31 := Try.isAgg22
  z31 := Try.sizeOf22
  v31 := Try.zeroValue22
  t46 := Try.underlying45
  a46 := Try.isAgg45
  z46 := Try.sizeOf45
  v46 := Try.zeroValue45
  t51 := Try.underlying56
  a51 := Try.isAgg56
  z51 := Try.sizeOf56
  v51 := Try.zeroValue56
  t53 := Try.underlying58
  a53 := Try.isAgg58
  z53 := Try.sizeOf58
  v53 := Try.zeroValue58
  t131 := Try.underlying53
  a131 := Try.isAgg53
  z131 := Try.sizeOf53
  v131 := Try.zeroValue53
  t182 := Try.underlying47
  a182 := Try.isAgg47
  z182 := Try.sizeOf47
  v182 := Try.zeroValue47
  t183 := Try.underlying48
  a183 := Try.isAgg48
  z183 := Try.sizeOf48
  v183 := Try.zeroValue48
  t218 := Try.underlying59
  a218 := Try.isAgg59
  z218 := Try.sizeOf59
  v218 := Try.zeroValue59
  t222 := Try.underlying63
  a222 := Try.isAgg63
  z222 := Try.sizeOf63
  v222 := Try.zeroValue63
  t228 := Try.underlying66
  a228 := Try.isAgg66
  z228 := Try.sizeOf66
  v228 := Try.zeroValue66
  t229 := Try.underlying67
  a229 := Try.isAgg67
  z229 := Try.sizeOf67
  v229 := Try.zeroValue67 }
open Go.Sort Go.RowKit in
theorem Try.sort_Strings (blk off cap : Nat) (ss : List (List UInt8)) (w : World) (hH : Holds encStr w blk off ss.toArray) (hblk : blk < w.heap.size) (hsz : ss.length < 4611686018427387904) :
    Calls Try.prog 17 #[.slice (some ⟨blk, off, none⟩) ss.length cap] w fun e w' =>
      e = .returned (.tuple #[]) ∧ ∃ n os, w' = grow (putRow encStr (Sort.ahead w n) blk off (ss.mergeSort fun x y => decide (x ≤ y)).toArray) os := Any.sort_Strings Try.lays192 blk off cap ss w hH hblk hsz
def Try.lays194_ren : Go.Shelf.Ren := ⟨fun | 194 => 18 | n => n, fun | 31 => 22 | 9 => 9 | 3 => 3 | 4 => 4 | 0 => 0 | n => n, fun | n => n⟩
theorem Try.lays194 : Go.Proofs.Lays.n194 Try.prog Try.lays194_ren := {
  mixed := by kernel_rfl
  f194 := Try.func18.trans (congrArg some (by kernel_rfl))
  t0 := Try.underlying0
  a0 := Try.isAgg0
  z0 := Try.sizeOf0
  v0 := Try.zeroValue0
  t3 := Try.underlying3
  a3 := Try.isAgg3
  z3 := Try.sizeOf3
  v3 := Try.zeroValue3
  t4 := Try.underlying4
  a4 := Try.isAgg4
  z4 := Try.sizeOf4
  v4 := Try.zeroValue4
  t9 := Try.underlying9
  a9 := Try.isAgg9
  z9 := Try.sizeOf9
  v9 := Try.zeroValue9
  t31 := Try.underlying22
  a31 := Try.isAgg22
  z31 := Try.sizeOf22
  v31 := Try.zeroValue22 }
open Go.RowKit Go.Lib Go.Sort in
theorem Try.slices_Compact_string_arr (blk off cap : Nat) (d : Array (List UInt8)) (w : World) (hH : Holds encStr w blk off d) (hsz : d.size ≤ 9223372036854775807) (hcap : d.size ≤ cap) :
    Calls Try.prog 18 #[.slice (some ⟨blk, off, none⟩) d.size cap] w fun e w' => e = .returned (.slice (some ⟨blk, off, none⟩) (compactUpTo d d.size).length cap) ∧ ∃ q, w' = putRow encStr (Sort.ahead w q) blk off (compactUpTo d d.size ++ List.replicate (d.size - (compactUpTo d d.size).length) []).toArray := Any.slices_Compact_string_arr Try.lays194 blk off cap d w hH hsz hcap
open Go.RowKit Go.Lib Go.Sort in
theorem Try.slices_Compact_string (blk off cap : Nat) (zs : List (List UInt8)) (w : World) (hH : Holds encStr w blk off zs.toArray) (hsz : zs.length ≤ 9223372036854775807) (hcap : zs.length ≤ cap) :
    Calls Try.prog 18 #[.slice (some ⟨blk, off, none⟩) zs.length cap] w fun e w' => e = .returned (.slice (some ⟨blk, off, none⟩) (Lib.compact zs).length cap) ∧ ∃ q, w' = putRow encStr (Sort.ahead w q) blk off (Lib.compact zs ++ List.replicate (zs.length - (Lib.compact zs).length) []).toArray := Any.slices_Compact_string Try.lays194 blk off cap zs w hH hsz hcap
open Go.RowKit Go.Lib Go.Sort in
theorem Try.slices_Compact_string_empty (a : Option Addr) (cap : Nat) (w : World) :
    Calls Try.prog 18 #[.slice a 0 cap] w fun e w' => e = .returned (.slice a 0 cap) ∧ w' = w := Any.slices_Compact_string_empty Try.lays194 a cap w
open Go.RowKit Go.Sort in
theorem Try.slices_Sort_string_none (p : Option Addr) (cap : Nat) (w : World) :
    Calls Try.prog 21 #[.slice p 0 cap] w fun e w' => e = .returned (.tuple #[]) ∧ w' = w := Any.slices_Sort_string_none Try.lays190 p cap w
open Go.RowKit Go.Sort in
theorem Try.sort_Strings_none (p : Option Addr) (cap : Nat) (w : World) :
    Calls Try.prog 17 #[.slice p 0 cap] w fun e w' => e = .returned (.tuple #[]) ∧ w' = w := Any.sort_Strings_none Try.lays192 p cap w
end Go.Proofs
