/-
  FnDirect: the recogniser: nodes and their kids.
-/
import Derived.Test.YtkpfbgeaodopoaaDirShapeA
namespace Go.Proofs.Ytkpfbgeaodopoaa.fnDirect
open Go.RowKit
set_option linter.unusedSimpArgs false
set_option linter.unusedVariables false

/-- The variable n of 'n, l := t[at], Kids(t, at)', and what has been made till then. -/
def SVar (v : Value) (l : List Nat) (w W : World) (nb : Nat) (x : Nd) : Prop :=
  NumsIn W v l ∧ Below w.heap.size w W ∧ w.heap.size ≤ nb ∧ W.heap[nb]? = some (.cells #[.int .i64 x.kind, .int .i64 x.op, .string x.text, .int .i64 x.flag, .int .i64 x.size] 28 (0, 0))

theorem svar2 {w w1 : World} {x : Nd} {B : Nat} {v : Value} {l : List Nat} (h : Below w.heap.size w w1) (hf : w1.ownsRow B 3 1 v l.length (ints l)) : SVar v l w (w1.alloc (.cells #[.int .i64 x.kind, .int .i64 x.op, .string x.text, .int .i64 x.flag, .int .i64 x.size] 28)) w1.heap.size x :=
  ⟨NumsIn.of_own (own_far hf (fun b _ hb => (Below.alloc (Below.refl w1.heap.size w1) (Nat.le_refl _) _).block b hb)), h.alloc h.size _, h.size, block_new _ _⟩

theorem svar3 {w w1 : World} {x : Nd} {a b c d e : Value} {B : Nat} {v : Value} {l : List Nat} (h : Below w.heap.size w w1) (hf : w1.ownsRow B 3 1 v l.length (ints l)) (hz : w1.heap[w.heap.size]? = some (.cells #[a, b, c, d, e] 28 (0, 0))) (hB : w.heap.size < B) :
    SVar v l w (((((w1.setCell ⟨w.heap.size, 0, none⟩ (.int .i64 x.kind)).setCell ⟨w.heap.size, 1, none⟩ (.int .i64 x.op)).setCell ⟨w.heap.size, 2, none⟩ (.string x.text)).setCell ⟨w.heap.size, 3, none⟩ (.int .i64 x.flag)).setCell ⟨w.heap.size, 4, none⟩ (.int .i64 x.size)) w.heap.size x := by
  refine ⟨NumsIn.of_own (own_far hf (fun k hk _ => ?_)), ?_, Nat.le_refl _, ?_⟩
  · have hne : k ≠ w.heap.size := by omega
    rw [Below.heap_setCell _ _ _ _ hne, Below.heap_setCell _ _ _ _ hne, Below.heap_setCell _ _ _ _ hne, Below.heap_setCell _ _ _ _ hne, Below.heap_setCell _ _ _ _ hne]
  · exact ((((h.setCell (Nat.le_refl _) _).setCell (Nat.le_refl _) _).setCell (Nat.le_refl _) _).setCell (Nat.le_refl _) _).setCell (Nat.le_refl _) _
  · have := block_setCell (i := 4) (u := .int .i64 x.size) (block_setCell (i := 3) (u := .int .i64 x.flag) (block_setCell (i := 2) (u := .string x.text) (block_setCell (i := 1) (u := .int .i64 x.op) (block_setCell (i := 0) (u := .int .i64 x.kind) hz))))
    simpa using this
end Go.Proofs.Ytkpfbgeaodopoaa.fnDirect
