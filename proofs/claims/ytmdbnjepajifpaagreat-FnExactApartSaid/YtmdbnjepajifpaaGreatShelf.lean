/- The sort of strings in Go's library, at this program: written by the kit's tool that lays contracts. No statement of its own. -/
import Derived.Shelf.Sort.Plain
import Derived.Test.YtmdbnjepajifpaaGreatProg
namespace Go.Proofs
open Go.Shelf
def Tryz.lays190_ren : Go.Shelf.Ren := ⟨fun | 190 => 29 | 125 => 40 | 258 => 39 | 128 => 59 | 129 => 60 | 302 => 50 | 303 => 51 | 304 => 52 | 305 => 53 | 306 => 54 | 307 => 55 | 308 => 56 | 309 => 57 | 310 => 58 | 333 => 63 | 329 => 64 | 330 => 65 | 334 => 66 | 335 => 67 | 336 => 68 | 344 => 69 | n => n, fun | 31 => 23 | 9 => 9 | 3 => 3 | 46 => 69 | 0 => 0 | 51 => 95 | 53 => 97 | 4 => 4 | 183 => 88 | 182 => 87 | 131 => 92 | 5 => 5 | 218 => 106 | 222 => 110 | 228 => 113 | 229 => 114 | n => n, fun | n => n⟩
theorem Tryz.lays190 : Go.Proofs.Lays.n190 Tryz.prog Tryz.lays190_ren := {
  mixed := by kernel_rfl
  f125 := Tryz.func40.trans (congrArg some (by kernel_rfl))
  f128 := Tryz.func59.trans (congrArg some (by kernel_rfl))
  f129 := Tryz.func60.trans (congrArg some (by kernel_rfl))
  f190 := Tryz.func29.trans (congrArg some (by kernel_rfl))
  f258 := Tryz.func39.trans (congrArg some (by kernel_rfl))
  f302 := Tryz.func50.trans (congrArg some (by kernel_rfl))
  f303 := Tryz.func51.trans (congrArg some (by kernel_rfl))
  f304 := Tryz.func52.trans (congrArg some (by kernel_rfl))
  f305 := Tryz.func53.trans (congrArg some (by kernel_rfl))
  f306 := Tryz.func54.trans (congrArg some (by kernel_rfl))
  f307 := Tryz.func55.trans (congrArg some (by kernel_rfl))
  f308 := Tryz.func56.trans (congrArg some (by kernel_rfl))
  f309 := Tryz.func57.trans (congrArg some (by kernel_rfl))
  f310 := Tryz.func58.trans (congrArg some (by kernel_rfl))
  f329 := Tryz.func64.trans (congrArg some (by kernel_rfl))
  f330 := Tryz.func65.trans (congrArg some (by kernel_rfl))
  f333 := Tryz.func63.trans (congrArg some (by kernel_rfl))
  f334 := Tryz.func66.trans (congrArg some (by kernel_rfl))
  f335 := Tryz.func67.trans (congrArg some (by kernel_rfl))
  f336 := Tryz.func68.trans (congrArg some (by kernel_rfl))
  f344 := Tryz.func69.trans (congrArg some (by kernel_rfl))
  t0 := Tryz.underlying0
  a0 := Tryz.isAgg0
  z0 := Tryz.sizeOf0
  v0 := Tryz.zeroValue0
  t3 := Tryz.underlying3
  a3 := Tryz.isAgg3
  z3 := Tryz.sizeOf3
  v3 := Tryz.zeroValue3
  t4 := Tryz.underlying4
  a4 := Tryz.isAgg4
  z4 := Tryz.sizeOf4
  v4 := Tryz.zeroValue4
  t5 := Tryz.underlying5
  a5 := Tryz.isAgg5
  z5 := Tryz.sizeOf5
  v5 := Tryz.zeroValue5
  t9 := Tryz.underlying9
  a9 := Tryz.isAgg9
  z9 := Tryz.sizeOf9
  v9 := Tryz.zeroValue9
  t31 := Tryz.underlying23
  a31 := Tryz.isAgg23
  z31 := Tryz.sizeOf23
  v31 := Tryz.zeroValue23
  t46 := Tryz.underlying69
  a46 := Tryz.isAgg69
  z46 := Tryz.sizeOf69
  v46 := Tryz.zeroValue69
  t51 := Tryz.underlying95
  a51 := Tryz.isAgg95
  z51 := Tryz.sizeOf95
  v51 := Tryz.zeroValue95
  t53 := Tryz.underlying97
  a53 := Tryz.isAgg97
  z53 := Tryz.sizeOf97
  v53 := Tryz.zeroValue97
  t131 := Tryz.underlying92
  a131 := Tryz.isAgg92
  z131 := Tryz.sizeOf92
  v131 := Tryz.zeroValue92
  t182 := Tryz.underlying87
  a182 := Tryz.isAgg87
  z182 := Tryz.sizeOf87
  v182 := Tryz.zeroValue87
  t183 := Tryz.underlying88
  a183 := Tryz.isAgg88
  z183 := Tryz.sizeOf88
  v183 := Tryz.zeroValue88
  t218 := Tryz.underlying106
  a218 := Tryz.isAgg106
  z218 := Tryz.sizeOf106
  v218 := Tryz.zeroValue106
  t222 := Tryz.underlying110
  a222 := Tryz.isAgg110
  z222 := Tryz.sizeOf110
  v222 := Tryz.zeroValue110
  t228 := Tryz.underlying113
  a228 := Tryz.isAgg113
  z228 := Tryz.sizeOf113
  v228 := Tryz.zeroValue113
  t229 := Tryz.underlying114
  a229 := Tryz.isAgg114
  z229 := Tryz.sizeOf114
  v229 := Tryz.zeroValue114 }
open Go.Sort Go.RowKit in
theorem Tryz.slices_Sort_string (blk off cap : Nat) (ss : List (List UInt8)) (w : World) (hH : Holds encStr w blk off ss.toArray) (hblk : blk < w.heap.size) (hsz : ss.length < 4611686018427387904) :
    Calls Tryz.prog 29 #[.slice (some ⟨blk, off, none⟩) ss.length cap] w fun e w' =>
      e = .returned (.tuple #[]) ∧ ∃ n os, w' = grow (putRow encStr (Sort.ahead w n) blk off (ss.mergeSort fun x y => decide (x ≤ y)).toArray) os := Any.slices_Sort_string Tryz.lays190 blk off cap ss w hH hblk hsz
end Go.Proofs
