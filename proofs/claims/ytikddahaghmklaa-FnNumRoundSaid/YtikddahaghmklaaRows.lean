/-
  No cell of these rows narrows 'for every input' (looked for: loops, veiled, ifaces, maps, wideKeys, modest, calm, conditions, laid).
  DERIVED. THE GIVEN ROWS OF THIS SEAT. 7 by the template 'for every input the law returns true; each argument reads behind the call as it read before'; 0 by the template 'total and deterministic' (their statements: YtikddahaghmklaaTotals.lean).
  GIVEN WITH THE SEED: the statements are not yours to turn. If you find one false, say at which input.
  Laid BY PROGRAM, IN A SANDBOX (cutbox-rows.mjs): the forced cells as the released guide's own fill.sh prints them over the translation 3951df0c4d28c4e5… (all of the seat's roots in one cut). By AI agents, Wed Nov 11 2026. No macro, syntax, notation, axiom, sorry.
-/
import Derived.Test.YtikddahaghmklaaChecked
import GoSem.Claim
import GoSem.ClaimJoined
import GoSem.ClaimMapViews
import Derived.JoinedTies
import Derived.KernelRfl
namespace Go.Proofs.Ytikddahaghmklaa
/- THE CELL 'sum', in the pinned program and in every row, IS THE sha256 OF THE DUMP (.gsa) THAT YtikddahaghmklaaProg.lean LOADS. Nothing in Lean hashes anything: it is a label: what it is worth is what the hold of that sum in a sandbox is worth. -/
noncomputable def Try.pinned : Pinned := { name := "ytikddahaghmklaa", sum := "3951df0c4d28c4e56399b76eeecd280c72e9e07f33327cef70dd56ecb1f22be4", checked := Try.checked }
namespace Rows
def none {H : Type} : Left H := { results := [], args := [] }

/-- 'laws.FnTighter': WHATEVER THE INPUT: true; the input reads as it did. -/
def fnTighterSpec : ChangeSpec := { name := "fnTighter", fn := fun _ => fun
  | [d] => { results := [.lit (.bool true)], args := [d] }
  | _ => none }
def fnTighterRow : OpenClaim := { program := "ytikddahaghmklaa", sum := "3951df0c4d28c4e56399b76eeecd280c72e9e07f33327cef70dd56ecb1f22be4", func := "given.example/pub-rondel/laws.FnTighter", spec := "fnTighter", plainKeys := false, apart := false }
def FnTighterSaid : Prop := fnTighterRow.holds Try.pinned (OpenSpec.ofChange fnTighterSpec)

/-- ITS FALSE NEIGHBOUR: 'it returns false'. Refute it at one input. -/
def fnTighterWrong : ChangeSpec := { name := "fnTighter", fn := fun _ => fun
  | [d] => { results := [.lit (.bool false)], args := [d] }
  | _ => none }
def FnTighterWrongFalsely : Prop := fnTighterRow.holds Try.pinned (OpenSpec.ofChange fnTighterWrong)

/-- 'laws.FnBetween': WHATEVER THE INPUT: true; the input reads as it did. -/
def fnBetweenSpec : ChangeSpec := { name := "fnBetween", fn := fun _ => fun
  | [d1, d2, d3, d4] => { results := [.lit (.bool true)], args := [d1, d2, d3, d4] }
  | _ => none }
def fnBetweenRow : OpenClaim := { program := "ytikddahaghmklaa", sum := "3951df0c4d28c4e56399b76eeecd280c72e9e07f33327cef70dd56ecb1f22be4", func := "given.example/pub-rondel/laws.FnBetween", spec := "fnBetween", plainKeys := false, apart := false }
def FnBetweenSaid : Prop := fnBetweenRow.holds Try.pinned (OpenSpec.ofChange fnBetweenSpec)

/-- ITS FALSE NEIGHBOUR: 'it returns false'. Refute it at one input. -/
def fnBetweenWrong : ChangeSpec := { name := "fnBetween", fn := fun _ => fun
  | [d1, d2, d3, d4] => { results := [.lit (.bool false)], args := [d1, d2, d3, d4] }
  | _ => none }
def FnBetweenWrongFalsely : Prop := fnBetweenRow.holds Try.pinned (OpenSpec.ofChange fnBetweenWrong)

/-- 'laws.FnNumOrder': WHATEVER THE INPUT: true; the input reads as it did. -/
def fnNumOrderSpec : ChangeSpec := { name := "fnNumOrder", fn := fun _ => fun
  | [d1, d2, d3] => { results := [.lit (.bool true)], args := [d1, d2, d3] }
  | _ => none }
def fnNumOrderRow : OpenClaim := { program := "ytikddahaghmklaa", sum := "3951df0c4d28c4e56399b76eeecd280c72e9e07f33327cef70dd56ecb1f22be4", func := "given.example/pub-rondel/laws.FnNumOrder", spec := "fnNumOrder", inPlace := ["math.Float64bits", "math.Float64frombits"], plainKeys := false, apart := false }
def FnNumOrderSaid : Prop := fnNumOrderRow.holds Try.pinned (OpenSpec.ofChange fnNumOrderSpec)

/-- ITS FALSE NEIGHBOUR: 'it returns false'. Refute it at one input. -/
def fnNumOrderWrong : ChangeSpec := { name := "fnNumOrder", fn := fun _ => fun
  | [d1, d2, d3] => { results := [.lit (.bool false)], args := [d1, d2, d3] }
  | _ => none }
def FnNumOrderWrongFalsely : Prop := fnNumOrderRow.holds Try.pinned (OpenSpec.ofChange fnNumOrderWrong)

/-- 'laws.FnNumOver': WHATEVER THE INPUT: true; the input reads as it did. -/
def fnNumOverSpec : ChangeSpec := { name := "fnNumOver", fn := fun _ => fun
  | [d1, d2] => { results := [.lit (.bool true)], args := [d1, d2] }
  | _ => none }
def fnNumOverRow : OpenClaim := { program := "ytikddahaghmklaa", sum := "3951df0c4d28c4e56399b76eeecd280c72e9e07f33327cef70dd56ecb1f22be4", func := "given.example/pub-rondel/laws.FnNumOver", spec := "fnNumOver", inPlace := ["math.Float64bits", "math.Float64frombits"], plainKeys := false, apart := false }
def FnNumOverSaid : Prop := fnNumOverRow.holds Try.pinned (OpenSpec.ofChange fnNumOverSpec)

/-- ITS FALSE NEIGHBOUR: 'it returns false'. Refute it at one input. -/
def fnNumOverWrong : ChangeSpec := { name := "fnNumOver", fn := fun _ => fun
  | [d1, d2] => { results := [.lit (.bool false)], args := [d1, d2] }
  | _ => none }
def FnNumOverWrongFalsely : Prop := fnNumOverRow.holds Try.pinned (OpenSpec.ofChange fnNumOverWrong)

/-- 'laws.FnNumShiftL': WHATEVER THE INPUT: true; the input reads as it did. -/
def fnNumShiftLSpec : ChangeSpec := { name := "fnNumShiftL", fn := fun _ => fun
  | [d1, d2] => { results := [.lit (.bool true)], args := [d1, d2] }
  | _ => none }
def fnNumShiftLRow : OpenClaim := { program := "ytikddahaghmklaa", sum := "3951df0c4d28c4e56399b76eeecd280c72e9e07f33327cef70dd56ecb1f22be4", func := "given.example/pub-rondel/laws.FnNumShiftL", spec := "fnNumShiftL", inPlace := ["math.Float64bits", "math.Float64frombits"], unfollowed := true, recurses := true, plainKeys := false, apart := false }
def FnNumShiftLSaid : Prop := fnNumShiftLRow.holds Try.pinned (OpenSpec.ofChange fnNumShiftLSpec)

/-- ITS FALSE NEIGHBOUR: 'it returns false'. Refute it at one input. -/
def fnNumShiftLWrong : ChangeSpec := { name := "fnNumShiftL", fn := fun _ => fun
  | [d1, d2] => { results := [.lit (.bool false)], args := [d1, d2] }
  | _ => none }
def FnNumShiftLWrongFalsely : Prop := fnNumShiftLRow.holds Try.pinned (OpenSpec.ofChange fnNumShiftLWrong)

/-- 'laws.FnNumRound': WHATEVER THE INPUT: true; the input reads as it did. -/
def fnNumRoundSpec : ChangeSpec := { name := "fnNumRound", fn := fun _ => fun
  | [d] => { results := [.lit (.bool true)], args := [d] }
  | _ => none }
def fnNumRoundRow : OpenClaim := { program := "ytikddahaghmklaa", sum := "3951df0c4d28c4e56399b76eeecd280c72e9e07f33327cef70dd56ecb1f22be4", func := "given.example/pub-rondel/laws.FnNumRound", spec := "fnNumRound", inPlace := ["math.Float64bits", "math.Float64frombits", "math.archTrunc"], unfollowed := true, recurses := true, plainKeys := false, apart := false }
def FnNumRoundSaid : Prop := fnNumRoundRow.holds Try.pinned (OpenSpec.ofChange fnNumRoundSpec)

/-- ITS FALSE NEIGHBOUR: 'it returns false'. Refute it at one input. -/
def fnNumRoundWrong : ChangeSpec := { name := "fnNumRound", fn := fun _ => fun
  | [d] => { results := [.lit (.bool false)], args := [d] }
  | _ => none }
def FnNumRoundWrongFalsely : Prop := fnNumRoundRow.holds Try.pinned (OpenSpec.ofChange fnNumRoundWrong)

/-- 'laws.FnHypotTriples': WHATEVER THE INPUT: true; the input reads as it did. -/
def fnHypotTriplesSpec : ChangeSpec := { name := "fnHypotTriples", fn := fun _ => fun
  | [d1, d2] => { results := [.lit (.bool true)], args := [d1, d2] }
  | _ => none }
def fnHypotTriplesRow : OpenClaim := { program := "ytikddahaghmklaa", sum := "3951df0c4d28c4e56399b76eeecd280c72e9e07f33327cef70dd56ecb1f22be4", func := "given.example/pub-rondel/laws.FnHypotTriples", spec := "fnHypotTriples", inPlace := ["math.Float64bits", "math.Float64frombits", "math.archHypot", "math.sqrt"], unfollowed := true, recurses := true, plainKeys := false, apart := false }
def FnHypotTriplesSaid : Prop := fnHypotTriplesRow.holds Try.pinned (OpenSpec.ofChange fnHypotTriplesSpec)

/-- ITS FALSE NEIGHBOUR: 'it returns false'. Refute it at one input. -/
def fnHypotTriplesWrong : ChangeSpec := { name := "fnHypotTriples", fn := fun _ => fun
  | [d1, d2] => { results := [.lit (.bool false)], args := [d1, d2] }
  | _ => none }
def FnHypotTriplesWrongFalsely : Prop := fnHypotTriplesRow.holds Try.pinned (OpenSpec.ofChange fnHypotTriplesWrong)

/- THE SECOND FORM. 'bulk': how many values and letters a reading holds, each counted each time it is reached (what is shared counts as often as it is met; a slice's spare places count too). A statement '..UptoSaid' is the law's where the arguments, and the package variables that the reading takes, are together of bulk at most 1048576: NARROWER than '..Said'. Prove '..Said' where nothing that the law and all that it calls make is longer than what came in: it says more and counts as full. Else prove '..UptoSaid'. A law counts once. -/
mutual
def uptoBulk {H : Type} : DataW H → Nat
  | .lit (.string bytes) => bytes.length + 1
  | .lit _ => 1
  | .nil => 1
  | .ptr d => uptoBulk d + 1
  | .slice elems spare => uptoBulkAll elems + uptoBulkAll spare + 1
  | .agg parts => uptoBulkAll parts + 1
  | .iface _ d => uptoBulk d + 1
  | .map entries => uptoBulkEntries entries + 1
  | .held _ => 1
def uptoBulkAll {H : Type} : List (DataW H) → Nat
  | [] => 0
  | d :: r => uptoBulk d + uptoBulkAll r
def uptoBulkEntries {H : Type} : List (Lit × DataW H) → Nat
  | [] => 0
  | x :: r => uptoBulkEntry x + uptoBulkEntries r
def uptoBulkEntry {H : Type} : Lit × DataW H → Nat
  | (.string bytes, d) => bytes.length + uptoBulk d + 1
  | (_, d) => uptoBulk d + 1
 end
def uptoSmall : (H : Type) → List (DataW H) → Bool := fun _ ds => decide (uptoBulkAll ds ≤ 1048576)
def OpenSpec.upto (s : _root_.Go.ChangeSpec) : _root_.Go.OpenSpec := { _root_.Go.OpenSpec.ofChange s with cond := some uptoSmall }

/-- 'laws.FnTighter', WHERE WHAT IT READS IS OF BULK AT MOST 1048576: true; the input reads as it did. -/
def fnTighterUptoRow : OpenClaim := { program := "ytikddahaghmklaa", sum := "3951df0c4d28c4e56399b76eeecd280c72e9e07f33327cef70dd56ecb1f22be4", func := "given.example/pub-rondel/laws.FnTighter", spec := "fnTighter", plainKeys := false, apart := false, narrowed := true }
def FnTighterUptoSaid : Prop := fnTighterUptoRow.holds Try.pinned (OpenSpec.upto fnTighterSpec)

/-- 'laws.FnBetween', WHERE WHAT IT READS IS OF BULK AT MOST 1048576: true; the input reads as it did. -/
def fnBetweenUptoRow : OpenClaim := { program := "ytikddahaghmklaa", sum := "3951df0c4d28c4e56399b76eeecd280c72e9e07f33327cef70dd56ecb1f22be4", func := "given.example/pub-rondel/laws.FnBetween", spec := "fnBetween", plainKeys := false, apart := false, narrowed := true }
def FnBetweenUptoSaid : Prop := fnBetweenUptoRow.holds Try.pinned (OpenSpec.upto fnBetweenSpec)

/-- 'laws.FnNumOrder', WHERE WHAT IT READS IS OF BULK AT MOST 1048576: true; the input reads as it did. -/
def fnNumOrderUptoRow : OpenClaim := { program := "ytikddahaghmklaa", sum := "3951df0c4d28c4e56399b76eeecd280c72e9e07f33327cef70dd56ecb1f22be4", func := "given.example/pub-rondel/laws.FnNumOrder", spec := "fnNumOrder", inPlace := ["math.Float64bits", "math.Float64frombits"], plainKeys := false, apart := false, narrowed := true }
def FnNumOrderUptoSaid : Prop := fnNumOrderUptoRow.holds Try.pinned (OpenSpec.upto fnNumOrderSpec)

/-- 'laws.FnNumOver', WHERE WHAT IT READS IS OF BULK AT MOST 1048576: true; the input reads as it did. -/
def fnNumOverUptoRow : OpenClaim := { program := "ytikddahaghmklaa", sum := "3951df0c4d28c4e56399b76eeecd280c72e9e07f33327cef70dd56ecb1f22be4", func := "given.example/pub-rondel/laws.FnNumOver", spec := "fnNumOver", inPlace := ["math.Float64bits", "math.Float64frombits"], plainKeys := false, apart := false, narrowed := true }
def FnNumOverUptoSaid : Prop := fnNumOverUptoRow.holds Try.pinned (OpenSpec.upto fnNumOverSpec)

/-- 'laws.FnNumShiftL', WHERE WHAT IT READS IS OF BULK AT MOST 1048576: true; the input reads as it did. -/
def fnNumShiftLUptoRow : OpenClaim := { program := "ytikddahaghmklaa", sum := "3951df0c4d28c4e56399b76eeecd280c72e9e07f33327cef70dd56ecb1f22be4", func := "given.example/pub-rondel/laws.FnNumShiftL", spec := "fnNumShiftL", inPlace := ["math.Float64bits", "math.Float64frombits"], unfollowed := true, recurses := true, plainKeys := false, apart := false, narrowed := true }
def FnNumShiftLUptoSaid : Prop := fnNumShiftLUptoRow.holds Try.pinned (OpenSpec.upto fnNumShiftLSpec)

/-- 'laws.FnNumRound', WHERE WHAT IT READS IS OF BULK AT MOST 1048576: true; the input reads as it did. -/
def fnNumRoundUptoRow : OpenClaim := { program := "ytikddahaghmklaa", sum := "3951df0c4d28c4e56399b76eeecd280c72e9e07f33327cef70dd56ecb1f22be4", func := "given.example/pub-rondel/laws.FnNumRound", spec := "fnNumRound", inPlace := ["math.Float64bits", "math.Float64frombits", "math.archTrunc"], unfollowed := true, recurses := true, plainKeys := false, apart := false, narrowed := true }
def FnNumRoundUptoSaid : Prop := fnNumRoundUptoRow.holds Try.pinned (OpenSpec.upto fnNumRoundSpec)

/-- 'laws.FnHypotTriples', WHERE WHAT IT READS IS OF BULK AT MOST 1048576: true; the input reads as it did. -/
def fnHypotTriplesUptoRow : OpenClaim := { program := "ytikddahaghmklaa", sum := "3951df0c4d28c4e56399b76eeecd280c72e9e07f33327cef70dd56ecb1f22be4", func := "given.example/pub-rondel/laws.FnHypotTriples", spec := "fnHypotTriples", inPlace := ["math.Float64bits", "math.Float64frombits", "math.archHypot", "math.sqrt"], unfollowed := true, recurses := true, plainKeys := false, apart := false, narrowed := true }
def FnHypotTriplesUptoSaid : Prop := fnHypotTriplesUptoRow.holds Try.pinned (OpenSpec.upto fnHypotTriplesSpec)

end Rows
end Go.Proofs.Ytikddahaghmklaa
