/- The contract of slices.Sort at []string at this dump, laid by the shelf's lay-plain.mjs. -/
import Derived.Shelf.Sort.Plain
import Derived.Shelf.Slices.In.SortNone
import Derived.Test.YtipmpeekfajlcaaProg
namespace Go.Proofs.Ytipmpeekfajlcaa
open Go.Shelf
def lays190_ren : Go.Shelf.Ren := ⟨fun | 190 => 44 | 125 => 46 | 258 => 45 | 128 => 56 | 129 => 57 | 302 => 47 | 303 => 48 | 304 => 49 | 305 => 50 | 306 => 51 | 307 => 52 | 308 => 53 | 309 => 54 | 310 => 55 | 333 => 58 | 329 => 59 | 330 => 60 | 334 => 61 | 335 => 62 | 336 => 63 | 344 => 64 | n => n, fun | 31 => 51 | 9 => 9 | 3 => 3 | 46 => 108 | 0 => 0 | 51 => 101 | 53 => 119 | 4 => 4 | 183 => 111 | 182 => 110 | 131 => 115 | 5 => 5 | 218 => 120 | 222 => 124 | 228 => 126 | 229 => 127 | n => n, fun | n => n⟩
theorem lays190 : Go.Proofs.Lays.n190 Try.prog lays190_ren := {
  mixed := by kernel_rfl
  f125 := Try.func46.trans (congrArg some (by kernel_rfl))
  f128 := Try.func56.trans (congrArg some (by kernel_rfl))
  f129 := Try.func57.trans (congrArg some (by kernel_rfl))
  f190 := Try.func44.trans (congrArg some (by kernel_rfl))
  f258 := Try.func45.trans (congrArg some (by kernel_rfl))
  f302 := Try.func47.trans (congrArg some (by kernel_rfl))
  f303 := Try.func48.trans (congrArg some (by kernel_rfl))
  f304 := Try.func49.trans (congrArg some (by kernel_rfl))
  f305 := Try.func50.trans (congrArg some (by kernel_rfl))
  f306 := Try.func51.trans (congrArg some (by kernel_rfl))
  f307 := Try.func52.trans (congrArg some (by kernel_rfl))
  f308 := Try.func53.trans (congrArg some (by kernel_rfl))
  f309 := Try.func54.trans (congrArg some (by kernel_rfl))
  f310 := Try.func55.trans (congrArg some (by kernel_rfl))
  f329 := Try.func59.trans (congrArg some (by kernel_rfl))
  f330 := Try.func60.trans (congrArg some (by kernel_rfl))
  f333 := Try.func58.trans (congrArg some (by kernel_rfl))
  f334 := Try.func61.trans (congrArg some (by kernel_rfl))
  f335 := Try.func62.trans (congrArg some (by kernel_rfl))
  f336 := Try.func63.trans (congrArg some (by kernel_rfl))
  f344 := Try.func64.trans (congrArg some (by kernel_rfl))
  t0 := Try.underlying0
  a0 := Try.isAgg0
  z0 := Try.sizeOf0
  v0 := Try.zeroValue0
  t3 := Try.underlying3
  a3 := Try.isAgg3
  z3 := Try.sizeOf3
  v3 := Try.zeroValue3
  t4 := Try.underlying4
  a4 := Try.isAgg4
  z4 := Try.sizeOf4
  v4 := Try.zeroValue4
  t5 := Try.underlying5
  a5 := Try.isAgg5
  z5 := Try.sizeOf5
  v5 := Try.zeroValue5
  t9 := Try.underlying9
  a9 := Try.isAgg9
  z9 := Try.sizeOf9
  v9 := Try.zeroValue9
  t31 := Try.underlying51
  a31 := Try.isAgg51
  z31 := Try.sizeOf51
  v31 := Try.zeroValue51
  t46 := Try.underlying108
  a46 := Try.isAgg108
  z46 := Try.sizeOf108
  v46 := Try.zeroValue108
  t51 := Try.underlying101
  a51 := Try.isAgg101
  z51 := Try.sizeOf101
  v51 := Try.zeroValue101
  t53 := Try.underlying119
  a53 := Try.isAgg119
  z53 := Try.sizeOf119
  v53 := Try.zeroValue119
  t131 := Try.underlying115
  a131 := Try.isAgg115
  z131 := Try.sizeOf115
  v131 := Try.zeroValue115
  t182 := Try.underlying110
  a182 := Try.isAgg110
  z182 := Try.sizeOf110
  v182 := Try.zeroValue110
  t183 := Try.underlying111
  a183 := Try.isAgg111
  z183 := Try.sizeOf111
  v183 := Try.zeroValue111
  t218 := Try.underlying120
  a218 := Try.isAgg120
  z218 := Try.sizeOf120
  v218 := Try.zeroValue120
  t222 := Try.underlying124
  a222 := Try.isAgg124
  z222 := Try.sizeOf124
  v222 := Try.zeroValue124
  t228 := Try.underlying126
  a228 := Try.isAgg126
  z228 := Try.sizeOf126
  v228 := Try.zeroValue126
  t229 := Try.underlying127
  a229 := Try.isAgg127
  z229 := Try.sizeOf127
  v229 := Try.zeroValue127 }
open Go.Sort Go.RowKit in
theorem slices_Sort_string (blk off cap : Nat) (ss : List (List UInt8)) (w : World) (hH : Holds encStr w blk off ss.toArray) (hblk : blk < w.heap.size) (hsz : ss.length < 4611686018427387904) :
    Calls Try.prog 44 #[.slice (some ⟨blk, off, none⟩) ss.length cap] w fun e w' =>
      e = .returned (.tuple #[]) ∧ ∃ n os, w' = grow (putRow encStr (Sort.ahead w n) blk off (ss.mergeSort fun x y => decide (x ≤ y)).toArray) os := Any.slices_Sort_string lays190 blk off cap ss w hH hblk hsz
open Go.RowKit Go.Sort in
/-- .. and plain. (LAID: no walk: one application.) -/
theorem slices_Sort_string_none (p : Option Addr) (cap : Nat) (w : World) :
    Calls Try.prog 44 #[.slice p 0 cap] w fun e w' => e = .returned (.tuple #[]) ∧ w' = w := Any.slices_Sort_string_none lays190 p cap w
end Go.Proofs.Ytipmpeekfajlcaa
