/- The sort of strings in Go's library, at this program: written by the kit's tool that lays contracts. No statement of its own. -/
import Derived.Shelf.Sort.Plain
import Derived.Test.YtmdbnjepajifpaaProg
namespace Go.Proofs
open Go.Shelf
def Try.lays190_ren : Go.Shelf.Ren := ⟨fun | 190 => 69 | 125 => 77 | 258 => 76 | 128 => 87 | 129 => 88 | 302 => 78 | 303 => 79 | 304 => 80 | 305 => 81 | 306 => 82 | 307 => 83 | 308 => 84 | 309 => 85 | 310 => 86 | 333 => 89 | 329 => 90 | 330 => 91 | 334 => 92 | 335 => 93 | 336 => 94 | 344 => 95 | n => n, fun | 31 => 23 | 9 => 9 | 3 => 3 | 46 => 99 | 0 => 0 | 51 => 114 | 53 => 116 | 4 => 4 | 183 => 108 | 182 => 107 | 131 => 26 | 5 => 5 | 218 => 117 | 222 => 121 | 228 => 124 | 229 => 125 | n => n, fun | n => n⟩
theorem Try.lays190 : Go.Proofs.Lays.n190 Try.prog Try.lays190_ren := {
  mixed := by kernel_rfl
  f125 := Try.func77.trans (congrArg some (by kernel_rfl))
  f128 := Try.func87.trans (congrArg some (by kernel_rfl))
  f129 := Try.func88.trans (congrArg some (by kernel_rfl))
  f190 := Try.func69.trans (congrArg some (by kernel_rfl))
  f258 := Try.func76.trans (congrArg some (by kernel_rfl))
  f302 := Try.func78.trans (congrArg some (by kernel_rfl))
  f303 := Try.func79.trans (congrArg some (by kernel_rfl))
  f304 := Try.func80.trans (congrArg some (by kernel_rfl))
  f305 := Try.func81.trans (congrArg some (by kernel_rfl))
  f306 := Try.func82.trans (congrArg some (by kernel_rfl))
  f307 := Try.func83.trans (congrArg some (by kernel_rfl))
  f308 := Try.func84.trans (congrArg some (by kernel_rfl))
  f309 := Try.func85.trans (congrArg some (by kernel_rfl))
  f310 := Try.func86.trans (congrArg some (by kernel_rfl))
  f329 := Try.func90.trans (congrArg some (by kernel_rfl))
  f330 := Try.func91.trans (congrArg some (by kernel_rfl))
  f333 := Try.func89.trans (congrArg some (by kernel_rfl))
  f334 := Try.func92.trans (congrArg some (by kernel_rfl))
  f335 := Try.func93.trans (congrArg some (by kernel_rfl))
  f336 := Try.func94.trans (congrArg some (by kernel_rfl))
  f344 := Try.func95.trans (congrArg some (by kernel_rfl))
  t0 := Try.underlying0
  a0 := Try.isAgg0
  z0 := Try.sizeOf0
  v0 := Try.zeroValue0
  t3 := Try.underlying3
  a3 := Try.isAgg3
  z3 := Try.sizeOf3
  v3 := Try.zeroValue3
  t4 := Try.underlying4
  a4 := Try.isAgg4
  z4 := Try.sizeOf4
  v4 := Try.zeroValue4
  t5 := Try.underlying5
  a5 := Try.isAgg5
  z5 := Try.sizeOf5
  v5 := Try.zeroValue5
  t9 := Try.underlying9
  a9 := Try.isAgg9
  z9 := Try.sizeOf9
  v9 := Try.zeroValue9
  t31 := Try.underlying23
  a31 := Try.isAgg23
  z31 := Try.sizeOf23
  v31 := Try.zeroValue23
  t46 := Try.underlying99
  a46 := Try.isAgg99
  z46 := Try.sizeOf99
  v46 := Try.zeroValue99
  t51 := Try.underlying114
  a51 := Try.isAgg114
  z51 := Try.sizeOf114
  v51 := Try.zeroValue114
  t53 := Try.underlying116
  a53 := Try.isAgg116
  z53 := Try.sizeOf116
  v53 := Try.zeroValue116
  t131 := Try.underlying26
  a131 := Try.isAgg26
  z131 := Try.sizeOf26
  v131 := Try.zeroValue26
  t182 := Try.underlying107
  a182 := Try.isAgg107
  z182 := Try.sizeOf107
  v182 := Try.zeroValue107
  t183 := Try.underlying108
  a183 := Try.isAgg108
  z183 := Try.sizeOf108
  v183 := Try.zeroValue108
  t218 := Try.underlying117
  a218 := Try.isAgg117
  z218 := Try.sizeOf117
  v218 := Try.zeroValue117
  t222 := Try.underlying121
  a222 := Try.isAgg121
  z222 := Try.sizeOf121
  v222 := Try.zeroValue121
  t228 := Try.underlying124
  a228 := Try.isAgg124
  z228 := Try.sizeOf124
  v228 := Try.zeroValue124
  t229 := Try.underlying125
  a229 := Try.isAgg125
  z229 := Try.sizeOf125
  v229 := Try.zeroValue125 }
open Go.Sort Go.RowKit in
theorem Try.slices_Sort_string (blk off cap : Nat) (ss : List (List UInt8)) (w : World) (hH : Holds encStr w blk off ss.toArray) (hblk : blk < w.heap.size) (hsz : ss.length < 4611686018427387904) :
    Calls Try.prog 69 #[.slice (some ⟨blk, off, none⟩) ss.length cap] w fun e w' =>
      e = .returned (.tuple #[]) ∧ ∃ n os, w' = grow (putRow encStr (Sort.ahead w n) blk off (ss.mergeSort fun x y => decide (x ≤ y)).toArray) os := Any.slices_Sort_string Try.lays190 blk off cap ss w hH hblk hsz
end Go.Proofs
