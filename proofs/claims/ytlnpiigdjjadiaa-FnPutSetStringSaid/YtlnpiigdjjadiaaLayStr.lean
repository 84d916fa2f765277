/-
  sort.Strings laid at this dump (numbers of seat Ytlnpiigdjjadiaa). Conditions: none.
-/
import Derived.Shelf.Sort.Plain
import Derived.Test.YtlnpiigdjjadiaaProg
namespace Go.Proofs
open Go.Shelf
def Try.lays192_ren : Go.Shelf.Ren := ⟨fun | 192 => 25 | 190 => 42 | 125 => 48 | 258 => 57 | 128 => 66 | 129 => 67 | 302 => 80 | 303 => 81 | 304 => 82 | 305 => 83 | 306 => 84 | 307 => 85 | 308 => 86 | 309 => 87 | 310 => 88 | 333 => 97 | 329 => 90 | 330 => 91 | 334 => 98 | 335 => 99 | 336 => 100 | 344 => 103 | n => n, fun | 31 => 23 | 0 => 0 | 9 => 9 | 3 => 3 | 46 => 84 | 51 => 56 | 53 => 29 | 4 => 4 | 183 => 96 | 182 => 95 | 131 => 100 | 5 => 5 | 218 => 119 | 222 => 123 | 228 => 130 | 229 => 131 | n => n, fun | n => n⟩
theorem Try.lays192 : Go.Proofs.Lays.n192 Try.prog Try.lays192_ren := {
  mixed := by kernel_rfl
  f125 := Try.func48.trans (congrArg some (by kernel_rfl))
  f128 := Try.func66.trans (congrArg some (by kernel_rfl))
  f129 := Try.func67.trans (congrArg some (by kernel_rfl))
  f190 := Try.func42.trans (congrArg some (by kernel_rfl))
  f192 := Try.func25.trans (congrArg some (by kernel_rfl))
  f258 := Try.func57.trans (congrArg some (by kernel_rfl))
  f302 := Try.func80.trans (congrArg some (by kernel_rfl))
  f303 := Try.func81.trans (congrArg some (by kernel_rfl))
  f304 := Try.func82.trans (congrArg some (by kernel_rfl))
  f305 := Try.func83.trans (congrArg some (by kernel_rfl))
  f306 := Try.func84.trans (congrArg some (by kernel_rfl))
  f307 := Try.func85.trans (congrArg some (by kernel_rfl))
  f308 := Try.func86.trans (congrArg some (by kernel_rfl))
  f309 := Try.func87.trans (congrArg some (by kernel_rfl))
  f310 := Try.func88.trans (congrArg some (by kernel_rfl))
  f329 := Try.func90.trans (congrArg some (by kernel_rfl))
  f330 := Try.func91.trans (congrArg some (by kernel_rfl))
  f333 := Try.func97.trans (congrArg some (by kernel_rfl))
  f334 := Try.func98.trans (congrArg some (by kernel_rfl))
  f335 := Try.func99.trans (congrArg some (by kernel_rfl))
  f336 := Try.func100.trans (congrArg some (by kernel_rfl))
  f344 := Try.func103.trans (congrArg some (by kernel_rfl))
  t0 := Try.underlying0
  a0 := Try.isAgg0
  z0 := Try.sizeOf0
  v0 := Try.zeroValue0
  t3 := Try.underlying3
  a3 := Try.isAgg3
  z3 := Try.sizeOf3
  v3 := Try.zeroValue3
  t4 := Try.underlying4
  a4 := Try.isAgg4
  z4 := Try.sizeOf4
  v4 := Try.zeroValue4
  t5 := Try.underlying5
  a5 := Try.isAgg5
  z5 := Try.sizeOf5
  v5 := Try.zeroValue5
  t9 := Try.underlying9
  a9 := Try.isAgg9
  z9 := Try.sizeOf9
  v9 := Try.zeroValue9
  t31 := Try.underlying23
  a31 := Try.isAgg23
  z31 := Try.sizeOf23
  v31 := Try.zeroValue23
  t46 := Try.underlying84
  a46 := Try.isAgg84
  z46 := Try.sizeOf84
  v46 := Try.zeroValue84
  t51 := Try.underlying56
  a51 := Try.isAgg56
  z51 := Try.sizeOf56
  v51 := Try.zeroValue56
  t53 := Try.underlying29
  a53 := Try.isAgg29
  z53 := Try.sizeOf29
  v53 := Try.zeroValue29
  t131 := Try.underlying100
  a131 := Try.isAgg100
  z131 := Try.sizeOf100
  v131 := Try.zeroValue100
  t182 := Try.underlying95
  a182 := Try.isAgg95
  z182 := Try.sizeOf95
  v182 := Try.zeroValue95
  t183 := Try.underlying96
  a183 := Try.isAgg96
  z183 := Try.sizeOf96
  v183 := Try.zeroValue96
  t218 := Try.underlying119
  a218 := Try.isAgg119
  z218 := Try.sizeOf119
  v218 := Try.zeroValue119
  t222 := Try.underlying123
  a222 := Try.isAgg123
  z222 := Try.sizeOf123
  v222 := Try.zeroValue123
  t228 := Try.underlying130
  a228 := Try.isAgg130
  z228 := Try.sizeOf130
  v228 := Try.zeroValue130
  t229 := Try.underlying131
  a229 := Try.isAgg131
  z229 := Try.sizeOf131
  v229 := Try.zeroValue131 }
open Go.Sort Go.RowKit in
theorem Try.sort_Strings (blk off cap : Nat) (ss : List (List UInt8)) (w : World) (hH : Holds encStr w blk off ss.toArray) (hblk : blk < w.heap.size) (hsz : ss.length < 4611686018427387904) :
    Calls Try.prog 25 #[.slice (some ⟨blk, off, none⟩) ss.length cap] w fun e w' =>
      e = .returned (.tuple #[]) ∧ ∃ n os, w' = grow (putRow encStr (Sort.ahead w n) blk off (ss.mergeSort fun x y => decide (x ≤ y)).toArray) os := Any.sort_Strings Try.lays192 blk off cap ss w hH hblk hsz
end Go.Proofs
