/-
  Strings compared.
-/
import Derived.Test.YtekfehoabcbcfaaOwn
namespace Go.Proofs.Ytekfehoabcbcfaa
open Go.RowKit
set_option linter.unusedSimpArgs false
set_option linter.unusedVariables false

theorem seq_dec (a b : ByteArray) : (a.toList == b.toList) = decide (a = b) := by
  by_cases h : a = b
  · subst h; simp
  · have : a.toList ≠ b.toList := fun h2 => h (ByteArray.ext (Array.toList_inj.1 (by rw [← ByteArray.toList_eq, ← ByteArray.toList_eq, h2])))
    simp [h, this]

theorem seq_true {a b : ByteArray} (h : a = b) : (a.toList == b.toList) = true := by rw [seq_dec, decide_eq_true h]
theorem seq_false {a b : ByteArray} (h : a ≠ b) : (a.toList == b.toList) = false := by rw [seq_dec, decide_eq_false h]

/-- A list of strings that lies in memory. -/
def StrsIn (w : World) (c : Option Addr) (len cap : Nat) (S : Nat → ByteArray) : Prop :=
  (c = none ∧ len = 0 ∧ cap = 0) ∨ ∃ a, c = some a ∧ len ≤ cap ∧ cap ≤ maxLen ∧ ∀ i, i < len → a.block < w.heap.size ∧ w.cell? (a.add i) = some (.string (S i))

/-- A list of the strings, in the memory of a later world. -/
theorem StrsIn.below {w w' : World} {c : Option Addr} {len cap : Nat} {S : Nat → ByteArray} (h : StrsIn w c len cap S) (hb : Below w.heap.size w w') : StrsIn w' c len cap S := by
  rcases h with h | ⟨a, rfl, h1, h2, h3⟩
  · exact .inl h
  · refine .inr ⟨a, rfl, h1, h2, fun i hi => ?_⟩
    obtain ⟨hs, hc⟩ := h3 i hi
    have := hb.size
    exact ⟨by omega, cell_later hb hc⟩

end Go.Proofs.Ytekfehoabcbcfaa
