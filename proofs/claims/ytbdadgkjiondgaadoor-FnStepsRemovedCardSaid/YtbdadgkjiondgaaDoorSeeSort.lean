/-
  DERIVED: THE SHELF's CONTRACTS AT THIS DUMP, IN PLAIN WORDS (tools/lay-plain.mjs out of 'SeeTry.lean', which tools/lay-shelf.mjs wrote): THE SAME DECLARATIONS UNDER THE SAME NAMES: 'import', 'namespace', 'open', 'def', 'theorem' AND NOTHING ELSE: no command of the shelf's: FOR A HAND-IN. Each laying: the table of numbers ('.._ren') and one theorem, a field a fact of the dump's own or the kernel's comparison; each contract: ONE APPLICATION.
-/
import Derived.Shelf.Sort.Plain
import Derived.Shelf.Slices.In.SortNone
import Derived.Shelf.Slices.In.SortNone2
import Derived.Test.YtbdadgkjiondgaaDoorProg
namespace Go.Proofs
open Go.Shelf
def Tryd.lays192_ren : Go.Shelf.Ren := ⟨fun | 192 => 15 | 190 => 24 | 125 => 30 | 258 => 29 | 128 => 41 | 129 => 42 | 302 => 32 | 303 => 33 | 304 => 34 | 305 => 35 | 306 => 36 | 307 => 37 | 308 => 38 | 309 => 39 | 310 => 40 | 333 => 43 | 329 => 44 | 330 => 45 | 334 => 46 | 335 => 47 | 336 => 48 | 344 => 49 | n => n, fun | 31 => 24 | 0 => 0 | 9 => 9 | 3 => 3 | 46 => 53 | 51 => 111 | 53 => 64 | 4 => 4 | 183 => 103 | 182 => 102 | 131 => 108 | 5 => 5 | 218 => 113 | 222 => 117 | 228 => 119 | 229 => 120 | n => n, fun | n => n⟩
theorem Tryd.lays192 : Go.Proofs.Lays.n192 Tryd.prog Tryd.lays192_ren := {
  mixed := by kernel_rfl
  f125 := Tryd.func30.trans (congrArg some (by kernel_rfl))
  f128 := Tryd.func41.trans (congrArg some (by kernel_rfl))
  f129 := Tryd.func42.trans (congrArg some (by kernel_rfl))
  f190 := Tryd.func24.trans (congrArg some (by kernel_rfl))
  f192 := Tryd.func15.trans (congrArg some (by kernel_rfl))
  f258 := Tryd.func29.trans (congrArg some (by kernel_rfl))
  f302 := Tryd.func32.trans (congrArg some (by kernel_rfl))
  f303 := Tryd.func33.trans (congrArg some (by kernel_rfl))
  f304 := Tryd.func34.trans (congrArg some (by kernel_rfl))
  f305 := Tryd.func35.trans (congrArg some (by kernel_rfl))
  f306 := Tryd.func36.trans (congrArg some (by kernel_rfl))
  f307 := Tryd.func37.trans (congrArg some (by kernel_rfl))
  f308 := Tryd.func38.trans (congrArg some (by kernel_rfl))
  f309 := Tryd.func39.trans (congrArg some (by kernel_rfl))
  f310 := Tryd.func40.trans (congrArg some (by kernel_rfl))
  f329 := Tryd.func44.trans (congrArg some (by kernel_rfl))
  f330 := Tryd.func45.trans (congrArg some (by kernel_rfl))
  f333 := Tryd.func43.trans (congrArg some (by kernel_rfl))
  f334 := Tryd.func46.trans (congrArg some (by kernel_rfl))
  f335 := Tryd.func47.trans (congrArg some (by kernel_rfl))
  f336 := Tryd.func48.trans (congrArg some (by kernel_rfl))
  f344 := Tryd.func49.trans (congrArg some (by kernel_rfl))
  t0 := Tryd.underlying0
  a0 := Tryd.isAgg0
  z0 := Tryd.sizeOf0
  v0 := Tryd.zeroValue0
  t3 := Tryd.underlying3
  a3 := Tryd.isAgg3
  z3 := Tryd.sizeOf3
  v3 := Tryd.zeroValue3
  t4 := Tryd.underlying4
  a4 := Tryd.isAgg4
  z4 := Tryd.sizeOf4
  v4 := Tryd.zeroValue4
  t5 := Tryd.underlying5
  a5 := Tryd.isAgg5
  z5 := Tryd.sizeOf5
  v5 := Tryd.zeroValue5
  t9 := Tryd.underlying9
  a9 := Tryd.isAgg9
  z9 := Tryd.sizeOf9
  v9 := Tryd.zeroValue9
  t31 := Tryd.underlying24
  a31 := Tryd.isAgg24
  z31 := Tryd.sizeOf24
  v31 := Tryd.zeroValue24
  t46 := Tryd.underlying53
  a46 := Tryd.isAgg53
  z46 := Tryd.sizeOf53
  v46 := Tryd.zeroValue53
  t51 := Tryd.underlying111
  a51 := Tryd.isAgg111
  z51 := Tryd.sizeOf111
  v51 := Tryd.zeroValue111
  t53 := Tryd.underlying64
  a53 := Tryd.isAgg64
  z53 := Tryd.sizeOf64
  v53 := Tryd.zeroValue64
  t131 := Tryd.underlying108
  a131 := Tryd.isAgg108
  z131 := Tryd.sizeOf108
  v131 := Tryd.zeroValue108
  t182 := Tryd.underlying102
  a182 := Tryd.isAgg102
  z182 := Tryd.sizeOf102
  v182 := Tryd.zeroValue102
  t183 := Tryd.underlying103
  a183 := Tryd.isAgg103
  z183 := Tryd.sizeOf103
  v183 := Tryd.zeroValue103
  t218 := Tryd.underlying113
  a218 := Tryd.isAgg113
  z218 := Tryd.sizeOf113
  v218 := Tryd.zeroValue113
  t222 := Tryd.underlying117
  a222 := Tryd.isAgg117
  z222 := Tryd.sizeOf117
  v222 := Tryd.zeroValue117
  t228 := Tryd.underlying119
  a228 := Tryd.isAgg119
  z228 := Tryd.sizeOf119
  v228 := Tryd.zeroValue119
  t229 := Tryd.underlying120
  a229 := Tryd.isAgg120
  z229 := Tryd.sizeOf120
  v229 := Tryd.zeroValue120 }
open Go.Sort Go.RowKit in
theorem Tryd.sort_Strings (blk off cap : Nat) (ss : List (List UInt8)) (w : World) (hH : Holds encStr w blk off ss.toArray) (hblk : blk < w.heap.size) (hsz : ss.length < 4611686018427387904) :
    Calls Tryd.prog 15 #[.slice (some ⟨blk, off, none⟩) ss.length cap] w fun e w' =>
      e = .returned (.tuple #[]) ∧ ∃ n os, w' = grow (putRow encStr (Sort.ahead w n) blk off (ss.mergeSort fun x y => decide (x ≤ y)).toArray) os := Any.sort_Strings Tryd.lays192 blk off cap ss w hH hblk hsz
open Go.RowKit Go.Sort in
theorem Tryd.sort_Strings_none (p : Option Addr) (cap : Nat) (w : World) :
    Calls Tryd.prog 15 #[.slice p 0 cap] w fun e w' => e = .returned (.tuple #[]) ∧ w' = w := Any.sort_Strings_none Tryd.lays192 p cap w
end Go.Proofs
