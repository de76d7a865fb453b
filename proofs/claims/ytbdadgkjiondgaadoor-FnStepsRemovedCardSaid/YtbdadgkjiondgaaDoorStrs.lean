/-
  Lists of strings that came in, and their size test.
-/
import Derived.Test.YtbdadgkjiondgaaDoorOwn
namespace Go.Proofs.YtbdadgkjiondgaaDoor
open Go.RowKit
set_option linter.unusedSimpArgs false
set_option linter.unusedVariables false

theorem seq_dec (a b : ByteArray) : (a.toList == b.toList) = decide (a = b) := by
  by_cases h : a = b
  · subst h; simp
  · have : a.toList ≠ b.toList := fun h2 => h (ByteArray.ext (Array.toList_inj.1 (by rw [← ByteArray.toList_eq, ← ByteArray.toList_eq, h2])))
    simp [h, this]

theorem seq_true {a b : ByteArray} (h : a = b) : (a.toList == b.toList) = true := by rw [seq_dec, decide_eq_true h]
theorem seq_false {a b : ByteArray} (h : a ≠ b) : (a.toList == b.toList) = false := by rw [seq_dec, decide_eq_false h]

/-- A list of strings that lies in memory. -/
def StrsIn (w : World) (c : Option Addr) (len cap : Nat) (S : Nat → ByteArray) : Prop :=
  (c = none ∧ len = 0 ∧ cap = 0) ∨ ∃ a, c = some a ∧ len ≤ cap ∧ cap ≤ maxLen ∧ ∀ i, i < len → a.block < w.heap.size ∧ w.cell? (a.add i) = some (.string (S i))

theorem fits5_any (c : Option Addr) (len cap : Nat) (S : Nat → ByteArray) (w : World) (h : StrsIn w c len cap S) :
    Calls Tryd.prog 20 #[.slice c len cap] w fun e w' => IsB (fun _ => True) e ∧ w' = w := by
  rcases h with ⟨rfl, rfl, rfl⟩ | ⟨a, rfl, h1, h2, h3⟩
  · go_enter Tryd.func20, Tryd.ntmps20
    go_wp2
    go_rounds 1
    go_ret
    exact ⟨⟨true, rfl, trivial⟩, rfl⟩
  · by_cases hbig : (2147483647 : Int) < len
    · go_enter Tryd.func20, Tryd.ntmps20
      go_wp2
      go_ret
      exact ⟨⟨false, rfl, trivial⟩, rfl⟩
    · have HC : Hid _ := Lib.hid h3
      clear h3
      go_enter Tryd.func20, Tryd.ntmps20
      go_wp2
      go_loop [10] (fun i => ∃ k : Nat, k ≤ len ∧ i = .int .i64 k) (fun i => len - (intOf i).toNat)
      case atStart => exact ⟨0, Nat.zero_le _, rfl⟩
      case round =>
        obtain ⟨k, hk, rfl⟩ := hrel
        by_cases hlt : k < len
        · obtain ⟨hb, hcell⟩ := HC.out k hlt
          by_cases hs : (2147483647 : Int) < (S k).size
          · go_wp2
            go_ret
            exact ⟨⟨false, rfl, trivial⟩, rfl⟩
          · go_wp2
            go_round
            case rel => exact ⟨k + 1, by omega, by go_num⟩
            case measure => simp [intOf]; omega
        · go_wp2
          go_ret
          exact ⟨⟨true, rfl, trivial⟩, rfl⟩

/-- A list of the strings, in the memory of a later world. -/
theorem StrsIn.below {w w' : World} {c : Option Addr} {len cap : Nat} {S : Nat → ByteArray} (h : StrsIn w c len cap S) (hb : Below w.heap.size w w') : StrsIn w' c len cap S := by
  rcases h with h | ⟨a, rfl, h1, h2, h3⟩
  · exact .inl h
  · refine .inr ⟨a, rfl, h1, h2, fun i hi => ?_⟩
    obtain ⟨hs, hc⟩ := h3 i hi
    have := hb.size
    exact ⟨by omega, cell_later hb hc⟩

end Go.Proofs.YtbdadgkjiondgaaDoor
