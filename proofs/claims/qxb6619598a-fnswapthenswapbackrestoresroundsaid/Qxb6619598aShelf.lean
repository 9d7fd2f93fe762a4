import Derived.Shelf.Sort.Plain
import Derived.Test.Qxb6619598aProg
namespace Go.Proofs
open Go.Shelf
def Try.lays190_ren : Go.Shelf.Ren := ⟨fun | 190 => 42 | 125 => 47 | 258 => 46 | 128 => 58 | 129 => 59 | 302 => 49 | 303 => 50 | 304 => 51 | 305 => 52 | 306 => 53 | 307 => 54 | 308 => 55 | 309 => 56 | 310 => 57 | 333 => 61 | 329 => 62 | 330 => 63 | 334 => 64 | 335 => 65 | 336 => 66 | 344 => 67 | n => n, fun | 31 => 22 | 9 => 9 | 3 => 3 | 46 => 90 | 0 => 0 | 51 => 100 | 53 => 36 | 4 => 4 | 183 => 93 | 182 => 92 | 131 => 32 | 5 => 5 | 218 => 103 | 222 => 107 | 228 => 110 | 229 => 56 | n => n, fun | n => n⟩
theorem Try.lays190 : Go.Proofs.Lays.n190 Try.prog Try.lays190_ren := {
  mixed := by kernel_rfl
  f125 := Try.func47.trans (congrArg some (by kernel_rfl))
  f128 := Try.func58.trans (congrArg some (by kernel_rfl))
  f129 := Try.func59.trans (congrArg some (by kernel_rfl))
  f190 := Try.func42.trans (congrArg some (by kernel_rfl))
  f258 := Try.func46.trans (congrArg some (by kernel_rfl))
  f302 := Try.func49.trans (congrArg some (by kernel_rfl))
  f303 := Try.func50.trans (congrArg some (by kernel_rfl))
  f304 := Try.func51.trans (congrArg some (by kernel_rfl))
  f305 := Try.func52.trans (congrArg some (by kernel_rfl))
  f306 := Try.func53.trans (congrArg some (by kernel_rfl))
  f307 := Try.func54.trans (congrArg some (by kernel_rfl))
  f308 := Try.func55.trans (congrArg some (by kernel_rfl))
  f309 := Try.func56.trans (congrArg some (by kernel_rfl))
  f310 := Try.func57.trans (congrArg some (by kernel_rfl))
  f329 := Try.func62.trans (congrArg some (by kernel_rfl))
  f330 := Try.func63.trans (congrArg some (by kernel_rfl))
  f333 := Try.func61.trans (congrArg some (by kernel_rfl))
  f334 := Try.func64.trans (congrArg some (by kernel_rfl))
  f335 := Try.func65.trans (congrArg some (by kernel_rfl))
  f336 := Try.func66.trans (congrArg some (by kernel_rfl))
  f344 := Try.func67.trans (congrArg some (by kernel_rfl))
  t0 := Try.underlying0
  a0 := Try.isAgg0
  z0 := Try.sizeOf0
  v0 := Try.zeroValue0
  t3 := Try.underlying3
  a3 := Try.isAgg3
  z3 := Try.sizeOf3
  v3 := Try.zeroValue3
  t4 := Try.underlying4
  a4 := Try.isAgg4
  z4 := Try.sizeOf4
  v4 := Try.zeroValue4
  t5 := Try.underlying5
  a5 := Try.isAgg5
  z5 := Try.sizeOf5
  v5 := Try.zeroValue5
  t9 := Try.underlying9
  a9 := Try.isAgg9
  z9 := Try.sizeOf9
  v9 := Try.zeroValue9
  t31 := Try.underlying22
  a31 := Try.isAgg22
  z31 := Try.sizeOf22
  v31 := Try.zeroValue22
  t46 := Try.underlying90
  a46 := Try.isAgg90
  z46 := Try.sizeOf90
  v46 := Try.zeroValue90
  t51 := Try.underlying100
  a51 := Try.isAgg100
  z51 := Try.sizeOf100
  v51 := Try.zeroValue100
  t53 := Try.underlying36
  a53 := Try.isAgg36
  z53 := Try.sizeOf36
  v53 := Try.zeroValue36
  t131 := Try.underlying32
  a131 := Try.isAgg32
  z131 := Try.sizeOf32
  v131 := Try.zeroValue32
  t182 := Try.underlying92
  a182 := Try.isAgg92
  z182 := Try.sizeOf92
  v182 := Try.zeroValue92
  t183 := Try.underlying93
  a183 := Try.isAgg93
  z183 := Try.sizeOf93
  v183 := Try.zeroValue93
  t218 := Try.underlying103
  a218 := Try.isAgg103
  z218 := Try.sizeOf103
  v218 := Try.zeroValue103
  t222 := Try.underlying107
  a222 := Try.isAgg107
  z222 := Try.sizeOf107
  v222 := Try.zeroValue107
  t228 := Try.underlying110
  a228 := Try.isAgg110
  z228 := Try.sizeOf110
  v228 := Try.zeroValue110
  t229 := Try.underlying56
  a229 := Try.isAgg56
  z229 := Try.sizeOf56
  v229 := Try.zeroValue56 }
open Go.Sort Go.RowKit in
theorem Try.slices_Sort_string (blk off cap : Nat) (ss : List (List UInt8)) (w : World) (hH : Holds encStr w blk off ss.toArray) (hblk : blk < w.heap.size) (hsz : ss.length < 4611686018427387904) :
    Calls Try.prog 42 #[.slice (some ⟨blk, off, none⟩) ss.length cap] w fun e w' =>
      e = .returned (.tuple #[]) ∧ ∃ n os, w' = grow (putRow encStr (Sort.ahead w n) blk off (ss.mergeSort fun x y => decide (x ≤ y)).toArray) os := Any.slices_Sort_string Try.lays190 blk off cap ss w hH hblk hsz
end Go.Proofs
