/-
  FnArguments: the lists that came in, by their readings.
-/
import Derived.Test.YthdlekfnmabldaaArgWalk
import Derived.Deep.Strs
import Derived.Deep.Grids
namespace Go.Proofs.Ythdlekfnmabldaa.fnArguments
open Go.RowKit
open Go.ChangeShapes Go.WideShapes Go.Deep

section
variable {H : Type} {enc : TypeId × Value → H} {W : World} {base : Nat} {spare : Nat → Bool} {held : Bool}

theorem Strs_open {c : Option Addr} {len cap : Nat} {d : DataW H} {p : List MemPlace} (h : DataW.Trod enc Try.prog W base spare held 26 (.slice c len cap) d p) : ∃ S : Nat → ByteArray, StrsIn W c len cap S := by
  obtain ⟨fuel, hf⟩ := h
  rcases open_strs Try.underlying26 Try.underlying9 (by kernel_rfl) hf with ⟨h1, -⟩ | ⟨a, len', cap', m, S, h1, h2, h3, h4, h5, -, h6⟩
  · simp [Value.cells] at h1
    obtain ⟨rfl, rfl, rfl⟩ := h1
    exact ⟨fun _ => ⟨#[]⟩, .inl ⟨rfl, rfl, rfl⟩⟩
  · simp [Value.cells] at h1
    obtain ⟨rfl, rfl, rfl⟩ := h1
    have hlm : len ≤ m := by rw [h5]; split <;> omega
    refine ⟨S, .inr ⟨a, rfl, h3, h4, fun i hi => ?_⟩⟩
    obtain ⟨h7, h8⟩ := h6 i (by omega)
    refine ⟨?_, h7⟩
    have := World.block_lt_of_cell? _ _ h7
    simpa [Addr.add] using (by unfold Addr.add at this; split at this <;> exact this : a.block < W.heap.size)

theorem Bools_open {c : Option Addr} {len cap : Nat} {d : DataW H} {p : List MemPlace} (h : DataW.Trod enc Try.prog W base (fun _ => true) held 34 (.slice c len cap) d p) : ∃ S : Nat → Bool, BoolsIn W c len cap S := by
  obtain ⟨fuel, hf⟩ := h
  rcases open_bools Try.underlying34 Try.underlying4 (by kernel_rfl) hf with ⟨h1, -⟩ | ⟨a, len', cap', S, h1, h2, h3, h4, -, h6⟩
  · simp [Value.cells] at h1
    obtain ⟨rfl, rfl, rfl⟩ := h1
    exact ⟨fun _ => false, .inl ⟨rfl, rfl, rfl⟩⟩
  · simp [Value.cells] at h1
    obtain ⟨rfl, rfl, rfl⟩ := h1
    refine ⟨S, .inr ⟨a, rfl, h3, h4, fun i hi => ?_⟩⟩
    have h7 := h6 i (by omega)
    refine ⟨?_, h7⟩
    have := World.block_lt_of_cell? _ _ h7
    simpa [Addr.add] using (by unfold Addr.add at this; split at this <;> exact this : a.block < W.heap.size)
end
end Go.Proofs.Ythdlekfnmabldaa.fnArguments
