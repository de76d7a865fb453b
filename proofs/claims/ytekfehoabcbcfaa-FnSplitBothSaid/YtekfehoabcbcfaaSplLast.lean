/-
  DERIVED: THE SHELF's CONTRACTS AT THIS DUMP, IN PLAIN WORDS (tools/lay-plain.mjs out of 'YtekfehoabcbcfaaLastTry.lean', which tools/lay-shelf.mjs wrote): THE SAME DECLARATIONS UNDER THE SAME NAMES: 'import', 'namespace', 'open', 'def', 'theorem' AND NOTHING ELSE: no command of the shelf's: FOR A HAND-IN. Each laying: the table of numbers ('.._ren') and one theorem, a field a fact of the dump's own or the kernel's comparison; each contract: ONE APPLICATION.
-/
import Derived.Test.YtekfehoabcbcfaaProg
import Derived.Shelf.Strings.LastIndexAll
namespace Go.Proofs
open Go.Shelf
def Try.laysLast_ren : Go.Shelf.Ren := ⟨fun | 148 => 29 | 222 => 36 | 223 => 37 | 269 => 39 | n => n, fun | 9 => 9 | 3 => 3 | 4 => 4 | 5 => 5 | 146 => 130 | 51 => 129 | 46 => 68 | n => n, fun | n => n⟩
theorem Try.laysLast : Go.Proofs.Lays.n148 Try.prog Try.laysLast_ren := {
  mixed := by kernel_rfl
  f148 := Try.func29.trans (congrArg some (by kernel_rfl))
  f222 := Try.func36.trans (congrArg some (by kernel_rfl))
  f223 := Try.func37.trans (congrArg some (by kernel_rfl))
  f269 := Try.func39.trans (congrArg some (by kernel_rfl))
  t3 := Try.underlying3
  a3 := Try.isAgg3
  z3 := Try.sizeOf3
  v3 := Try.zeroValue3
  t4 := Try.underlying4
  a4 := Try.isAgg4
  z4 := Try.sizeOf4
  v4 := Try.zeroValue4
  t5 := Try.underlying5
  a5 := Try.isAgg5
  z5 := Try.sizeOf5
  v5 := Try.zeroValue5
  t9 := Try.underlying9
  a9 := Try.isAgg9
  z9 := Try.sizeOf9
  v9 := Try.zeroValue9
  t46 := Try.underlying68
  a46 := Try.isAgg68
  z46 := Try.sizeOf68
  v46 := Try.zeroValue68
  t51 := Try.underlying129
  a51 := Try.isAgg129
  z51 := Try.sizeOf129
  v51 := Try.zeroValue129
  t146 := Try.underlying130
  a146 := Try.isAgg130
  z146 := Try.sizeOf130
  v146 := Try.zeroValue130 }
end Go.Proofs
