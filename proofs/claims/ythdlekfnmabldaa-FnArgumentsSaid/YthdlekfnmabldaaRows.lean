/-
  No cell of these rows narrows 'for every input' (looked for: loops, veiled, ifaces, maps, wideKeys, modest, calm, conditions, laid).
  DERIVED. THE GIVEN ROWS OF THIS SEAT. 3 by the template 'for every input the law returns true; each argument reads behind the call as it read before'; 0 by the template 'total and deterministic' (their statements: YthdlekfnmabldaaTotals.lean).
  GIVEN WITH THE SEED: the statements are not yours to turn. If you find one false, say at which input.
  Laid BY PROGRAM, IN A SANDBOX (cutbox-rows.mjs): the forced cells as the released guide's own fill.sh prints them over the translation 3d8c548fb860fcde… (all of the seat's roots in one cut). By AI agents, Wed Nov 11 2026. No macro, syntax, notation, axiom, sorry.
-/
import Derived.Test.YthdlekfnmabldaaChecked
import GoSem.Claim
import GoSem.ClaimJoined
import GoSem.ClaimMapViews
import Derived.JoinedTies
import Derived.KernelRfl
namespace Go.Proofs.Ythdlekfnmabldaa
/- THE CELL 'sum', in the pinned program and in every row, IS THE sha256 OF THE DUMP (.gsa) THAT YthdlekfnmabldaaProg.lean LOADS. Nothing in Lean hashes anything: it is a label: what it is worth is what the hold of that sum in a sandbox is worth. -/
noncomputable def Try.pinned : Pinned := { name := "ythdlekfnmabldaa", sum := "3d8c548fb860fcde8c9c541b85ad915d8ba580621958fe1411605db1994a9f73", checked := Try.checked }
namespace Rows
def none {H : Type} : Left H := { results := [], args := [] }

/-- 'laws.FnFodderClean': WHATEVER THE INPUT: true; the input reads as it did. -/
def fnFodderCleanSpec : ChangeSpec := { name := "fnFodderClean", fn := fun _ => fun
  | [d] => { results := [.lit (.bool true)], args := [d] }
  | _ => none }
def fnFodderCleanRow : OpenClaim := { program := "ythdlekfnmabldaa", sum := "3d8c548fb860fcde8c9c541b85ad915d8ba580621958fe1411605db1994a9f73", func := "given.example/pub-rondel/laws.FnFodderClean", spec := "fnFodderClean", plainKeys := false, apart := false }
def FnFodderCleanSaid : Prop := fnFodderCleanRow.holds Try.pinned (OpenSpec.ofChange fnFodderCleanSpec)

/-- ITS FALSE NEIGHBOUR: 'it returns false'. Refute it at one input. -/
def fnFodderCleanWrong : ChangeSpec := { name := "fnFodderClean", fn := fun _ => fun
  | [d] => { results := [.lit (.bool false)], args := [d] }
  | _ => none }
def FnFodderCleanWrongFalsely : Prop := fnFodderCleanRow.holds Try.pinned (OpenSpec.ofChange fnFodderCleanWrong)

/-- 'laws.FnFodderIndents': WHATEVER THE INPUT: true; the input reads as it did. -/
def fnFodderIndentsSpec : ChangeSpec := { name := "fnFodderIndents", fn := fun _ => fun
  | [d1, d2, d3] => { results := [.lit (.bool true)], args := [d1, d2, d3] }
  | _ => none }
def fnFodderIndentsRow : OpenClaim := { program := "ythdlekfnmabldaa", sum := "3d8c548fb860fcde8c9c541b85ad915d8ba580621958fe1411605db1994a9f73", func := "given.example/pub-rondel/laws.FnFodderIndents", spec := "fnFodderIndents", plainKeys := false, apart := false }
def FnFodderIndentsSaid : Prop := fnFodderIndentsRow.holds Try.pinned (OpenSpec.ofChange fnFodderIndentsSpec)

/-- ITS FALSE NEIGHBOUR: 'it returns false'. Refute it at one input. -/
def fnFodderIndentsWrong : ChangeSpec := { name := "fnFodderIndents", fn := fun _ => fun
  | [d1, d2, d3] => { results := [.lit (.bool false)], args := [d1, d2, d3] }
  | _ => none }
def FnFodderIndentsWrongFalsely : Prop := fnFodderIndentsRow.holds Try.pinned (OpenSpec.ofChange fnFodderIndentsWrong)

/-- 'laws.FnArguments': WHATEVER THE INPUT: true; the input reads as it did. -/
def fnArgumentsSpec : ChangeSpec := { name := "fnArguments", fn := fun _ => fun
  | [d1, d2, d3, d4] => { results := [.lit (.bool true)], args := [d1, d2, d3, d4] }
  | _ => none }
def fnArgumentsRow : OpenClaim := { program := "ythdlekfnmabldaa", sum := "3d8c548fb860fcde8c9c541b85ad915d8ba580621958fe1411605db1994a9f73", func := "given.example/pub-rondel/laws.FnArguments", spec := "fnArguments", plainKeys := false, apart := false }
def FnArgumentsSaid : Prop := fnArgumentsRow.holds Try.pinned (OpenSpec.ofChange fnArgumentsSpec)

/-- ITS FALSE NEIGHBOUR: 'it returns false'. Refute it at one input. -/
def fnArgumentsWrong : ChangeSpec := { name := "fnArguments", fn := fun _ => fun
  | [d1, d2, d3, d4] => { results := [.lit (.bool false)], args := [d1, d2, d3, d4] }
  | _ => none }
def FnArgumentsWrongFalsely : Prop := fnArgumentsRow.holds Try.pinned (OpenSpec.ofChange fnArgumentsWrong)

/- THE SECOND FORM. 'bulk': how many values and letters a reading holds, each counted each time it is reached (what is shared counts as often as it is met; a slice's spare places count too). A statement '..UptoSaid' is the law's where the arguments, and the package variables that the reading takes, are together of bulk at most 1048576: NARROWER than '..Said'. Prove '..Said' where nothing that the law and all that it calls make is longer than what came in: it says more and counts as full. Else prove '..UptoSaid'. A law counts once. -/
mutual
def uptoBulk {H : Type} : DataW H → Nat
  | .lit (.string bytes) => bytes.length + 1
  | .lit _ => 1
  | .nil => 1
  | .ptr d => uptoBulk d + 1
  | .slice elems spare => uptoBulkAll elems + uptoBulkAll spare + 1
  | .agg parts => uptoBulkAll parts + 1
  | .iface _ d => uptoBulk d + 1
  | .map entries => uptoBulkEntries entries + 1
  | .held _ => 1
def uptoBulkAll {H : Type} : List (DataW H) → Nat
  | [] => 0
  | d :: r => uptoBulk d + uptoBulkAll r
def uptoBulkEntries {H : Type} : List (Lit × DataW H) → Nat
  | [] => 0
  | x :: r => uptoBulkEntry x + uptoBulkEntries r
def uptoBulkEntry {H : Type} : Lit × DataW H → Nat
  | (.string bytes, d) => bytes.length + uptoBulk d + 1
  | (_, d) => uptoBulk d + 1
 end
def uptoSmall : (H : Type) → List (DataW H) → Bool := fun _ ds => decide (uptoBulkAll ds ≤ 1048576)
def OpenSpec.upto (s : _root_.Go.ChangeSpec) : _root_.Go.OpenSpec := { _root_.Go.OpenSpec.ofChange s with cond := some uptoSmall }

/-- 'laws.FnFodderClean', WHERE WHAT IT READS IS OF BULK AT MOST 1048576: true; the input reads as it did. -/
def fnFodderCleanUptoRow : OpenClaim := { program := "ythdlekfnmabldaa", sum := "3d8c548fb860fcde8c9c541b85ad915d8ba580621958fe1411605db1994a9f73", func := "given.example/pub-rondel/laws.FnFodderClean", spec := "fnFodderClean", plainKeys := false, apart := false, narrowed := true }
def FnFodderCleanUptoSaid : Prop := fnFodderCleanUptoRow.holds Try.pinned (OpenSpec.upto fnFodderCleanSpec)

/-- 'laws.FnFodderIndents', WHERE WHAT IT READS IS OF BULK AT MOST 1048576: true; the input reads as it did. -/
def fnFodderIndentsUptoRow : OpenClaim := { program := "ythdlekfnmabldaa", sum := "3d8c548fb860fcde8c9c541b85ad915d8ba580621958fe1411605db1994a9f73", func := "given.example/pub-rondel/laws.FnFodderIndents", spec := "fnFodderIndents", plainKeys := false, apart := false, narrowed := true }
def FnFodderIndentsUptoSaid : Prop := fnFodderIndentsUptoRow.holds Try.pinned (OpenSpec.upto fnFodderIndentsSpec)

/-- 'laws.FnArguments', WHERE WHAT IT READS IS OF BULK AT MOST 1048576: true; the input reads as it did. -/
def fnArgumentsUptoRow : OpenClaim := { program := "ythdlekfnmabldaa", sum := "3d8c548fb860fcde8c9c541b85ad915d8ba580621958fe1411605db1994a9f73", func := "given.example/pub-rondel/laws.FnArguments", spec := "fnArguments", plainKeys := false, apart := false, narrowed := true }
def FnArgumentsUptoSaid : Prop := fnArgumentsUptoRow.holds Try.pinned (OpenSpec.upto fnArgumentsSpec)

end Rows
end Go.Proofs.Ythdlekfnmabldaa
