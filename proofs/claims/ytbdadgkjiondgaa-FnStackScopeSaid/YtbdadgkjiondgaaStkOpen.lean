/-
  FnStackScope: lists of steps, and of names, that came in.
-/
import Derived.Test.YtbdadgkjiondgaaStkWalk
import Derived.Deep.Slices
import Derived.Deep.Strs
import Derived.Deep.Fields
import Derived.Deep.Grids
import Derived.ChangeSame
namespace Go.Proofs.Ytbdadgkjiondgaa.fnStackScope
open Go.RowKit
open Go.ChangeShapes Go.WideShapes Go.Deep

section
variable {H : Type} {enc : TypeId × Value → H} {P : Program} {w : World} {base : Nat} {spare : Nat → Bool} {held : Bool}
theorem open_slice_fields {t e : TypeId} {fs : Array Field} {fuel : Nat} {cs : List Value} {x : DataW H × List MemPlace} (ht : P.underlying t = some (.slice e)) (he : P.underlying e = some (.struct fs))
    (hone : oneCellFields P fs = true) (hC : P.cellsOf e = fs.size) (h : DataW.trod enc P w base spare held fuel t cs = some x) :
    (cs = [.slice none 0 0] ∧ x = (.nil, [])) ∨
    ∃ (a : Addr) (len cap m : Nat) (D : Nat → DataW H) (Pl : Nat → List MemPlace), cs = [.slice (some a) len cap] ∧ base ≤ a.block ∧ len ≤ cap ∧ cap ≤ maxLen ∧ m = (if spare a.block then cap else len) ∧
      x = (.slice ((List.range len).map D) ((List.range (m - len)).map fun j => D (len + j)), MemPlace.row a (m * fs.size) ++ (List.range m).flatMap Pl) ∧
      ∀ i, i < m → ∃ (ys : List (DataW H × List MemPlace)) (n : Nat), D i = .agg (ys.map (·.1)) ∧ Pl i = ys.flatMap (·.2) ∧ ys.length = fs.size ∧
        ∀ (j : Nat) (f : Field), fs[j]? = some f → ∃ (v : Value) (y : DataW H × List MemPlace), w.cell? (a.add (i * fs.size + j)) = some v ∧ ys[j]? = some y ∧ DataW.trod enc P w base spare held n f.type [v] = some y := by
  rcases open_slice ht h with h0 | ⟨a, len, cap, m, n, D, Pl, hcs, hb, hl, hm, hmm, hx, hi⟩
  · exact .inl h0
  · refine .inr ⟨a, len, cap, m, D, Pl, hcs, hb, hl, hm, hmm, by rw [hC] at hx; exact hx, fun i him => ?_⟩
    obtain ⟨cs', hc, ht'⟩ := hi i him
    rw [hC] at hc
    obtain ⟨ys, n', hn', hy, hlen, hyl, hf⟩ := DataW.trod_struct he ht'
    obtain ⟨_, hcl, hat⟩ := World.cells?_some hc
    simp only [Prod.mk.injEq] at hy
    refine ⟨ys, n', hy.1, hy.2, hyl, fun j f hj => ?_⟩
    obtain ⟨ho, hk⟩ := hone_of hone j f hj
    have hjl : j < fs.size := (Array.getElem?_eq_some_iff.1 hj).1
    have hcell := hat j hjl
    have hv : cs'[j]? = some (cs'[j]'(by omega)) := List.getElem?_eq_getElem (by omega)
    have h1 := hf j f hj
    rw [ho, hk] at h1
    have hone' : (cs'.drop j).take 1 = [cs'[j]'(by omega)] := by
      rw [List.drop_eq_getElem_cons (by omega)]
      rfl
    rw [hone'] at h1
    have hys : ys[j]? = some (ys[j]'(by omega)) := List.getElem?_eq_getElem (by omega)
    refine ⟨_, _, ?_, hys, h1.trans hys⟩
    rw [← Go.Deep.add_add, hcell, hv]
end

section
variable {H : Type} {enc : TypeId × Value → H} {W : World} {base : Nat} {spare : Nat → Bool} {held : Bool}

theorem add_form (x : Addr) (j : Nat) (hj : 0 < j) : x.add j = ⟨x.block, x.off + j, none⟩ := by
  unfold Addr.add
  rw [if_neg (by omega)]

/-- A list of strings, by its reading. -/
theorem strs_open {fuel : Nat} {cs : List Value} {x : DataW H × List MemPlace} (h : DataW.trod enc Try.prog W base spare held fuel 23 cs = some x) :
    ∃ (c : Option Addr) (len cap : Nat) (S : Nat → ByteArray), cs = [.slice c len cap] ∧ StrsIn W c len cap S ∧ ∀ i, i < len → (S i).size ≤ maxLen := by
  rcases open_strs Try.underlying23 Try.underlying9 (by kernel_rfl) h with ⟨h1, -⟩ | ⟨a, len, cap, m, S, h1, h2, h3, h4, h5, -, h6⟩
  · exact ⟨none, 0, 0, fun _ => ⟨#[]⟩, h1, .inl ⟨rfl, rfl, rfl⟩, fun i hi => absurd hi (by omega)⟩
  · have hlm : len ≤ m := by rw [h5]; split <;> omega
    refine ⟨some a, len, cap, S, h1, .inr ⟨a, rfl, h3, h4, fun i hi => ?_⟩, fun i hi => (h6 i (by omega)).2⟩
    obtain ⟨h7, h8⟩ := h6 i (by omega)
    refine ⟨?_, h7⟩
    have := World.block_lt_of_cell? _ _ h7
    simpa [Addr.add] using (by unfold Addr.add at this; split at this <;> exact this : a.block < W.heap.size)

theorem Strs_open {c : Option Addr} {len cap : Nat} {d : DataW H} {p : List MemPlace} (h : DataW.Trod enc Try.prog W base spare held 23 (.slice c len cap) d p) : ∃ S : Nat → ByteArray, StrsIn W c len cap S := by
  obtain ⟨fuel, hf⟩ := h
  rcases open_strs Try.underlying23 Try.underlying9 (by kernel_rfl) hf with ⟨h1, -⟩ | ⟨a, len', cap', m, S, h1, h2, h3, h4, h5, -, h6⟩
  · simp [Value.cells] at h1
    obtain ⟨rfl, rfl, rfl⟩ := h1
    exact ⟨fun _ => ⟨#[]⟩, .inl ⟨rfl, rfl, rfl⟩⟩
  · simp [Value.cells] at h1
    obtain ⟨rfl, rfl, rfl⟩ := h1
    have hlm : len ≤ m := by rw [h5]; split <;> omega
    refine ⟨S, .inr ⟨a, rfl, h3, h4, fun i hi => ?_⟩⟩
    obtain ⟨h7, h8⟩ := h6 i (by omega)
    refine ⟨?_, h7⟩
    have := World.block_lt_of_cell? _ _ h7
    simpa [Addr.add] using (by unfold Addr.add at this; split at this <;> exact this : a.block < W.heap.size)


theorem Ses_open {c : Option Addr} {len cap : Nat} {d : DataW H} {p : List MemPlace} (h : DataW.Trod enc Try.prog W base spare held 22 (.slice c len cap) d p) : ∃ E : Nat → SE, SesIn W c len cap E := by
  obtain ⟨fuel, hf⟩ := h
  rcases open_slice_fields Try.underlying22 Try.underlying27 (by kernel_rfl) (by kernel_rfl) hf with ⟨h1, -⟩ | ⟨a, len', cap', m, D, Pl, h1, h2, h3, h4, h5, -, h6⟩
  · simp [Value.cells] at h1
    obtain ⟨rfl, rfl, rfl⟩ := h1
    exact ⟨fun _ => ⟨0, none, 0, 0, fun _ => ⟨#[]⟩, ⟨#[]⟩, 0, false⟩, .inl ⟨rfl, rfl, rfl⟩⟩
  · simp [Value.cells] at h1
    obtain ⟨rfl, rfl, rfl⟩ := h1
    have hlm : len ≤ m := by rw [h5]; split <;> omega
    have each : ∀ i, i < m → ∃ e : SE, SeIn W (a.add (i * 5)) e := fun i hi => by
      obtain ⟨ys, n, -, -, -, hfld⟩ := h6 i hi
      obtain ⟨v0, y0, hc0, -, ht0⟩ := hfld 0 _ rfl
      obtain ⟨v1, y1, hc1, -, ht1⟩ := hfld 1 _ rfl
      obtain ⟨v2, y2, hc2, -, ht2⟩ := hfld 2 _ rfl
      obtain ⟨v3, y3, hc3, -, ht3⟩ := hfld 3 _ rfl
      obtain ⟨v4, y4, hc4, -, ht4⟩ := hfld 4 _ rfl
      obtain ⟨k, e0, -, -⟩ := DataW.trod_int Try.underlying3 ht0
      obtain ⟨ca, cl, cc, S, e1, hS, -⟩ := strs_open ht1
      obtain ⟨s, e2, -⟩ := DataW.trod_string Try.underlying9 ht2
      obtain ⟨x, e3, -, -⟩ := DataW.trod_int Try.underlying3 ht3
      obtain ⟨b, e4, -⟩ := DataW.trod_bool Try.underlying4 ht4
      simp at e0 e1 e2 e3 e4
      subst e0 e1 e2 e3 e4
      refine ⟨⟨k, ca, cl, cc, S, s, x, b⟩, ?_, ?_, ?_, ?_, ?_, hS⟩
      · simpa using hc0
      · rw [← add_form (a.add (i * 5)) 1 (by omega), Go.Deep.add_add]; exact hc1
      · rw [← add_form (a.add (i * 5)) 2 (by omega), Go.Deep.add_add]; exact hc2
      · rw [← add_form (a.add (i * 5)) 3 (by omega), Go.Deep.add_add]; exact hc3
      · rw [← add_form (a.add (i * 5)) 4 (by omega), Go.Deep.add_add]; exact hc4
    refine ⟨fun i => if hi : i < m then (each i hi).choose else ⟨0, none, 0, 0, fun _ => ⟨#[]⟩, ⟨#[]⟩, 0, false⟩, .inr ⟨a, rfl, h3, h4, fun i hi => ?_⟩⟩
    have him : i < m := by omega
    simp only [dif_pos him]
    exact (each i him).choose_spec
end
end Go.Proofs.Ytbdadgkjiondgaa.fnStackScope
