/-
  FnDirect: the builder's field: what its struct's cells are.
-/
import Derived.Test.YtkpfbgeaodopoaaDirList
import Derived.Deep.MidRow
import Derived.Deep.Cut
namespace Go.Proofs.Ytkpfbgeaodopoaa.fnDirect
open Go.RowKit
set_option linter.unusedSimpArgs false
set_option linter.unusedVariables false

theorem cells18 {w : World} {n : Nat} {a' b' c' d' e' f' g' h' i' j' k' l' m' n' o' p' q' r' : Value} {t : TypeId} (hh : w.heap[n]? = some (.cells #[a', b', c', d', e', f', g', h', i', j', k', l', m', n', o', p', q', r'] t (0, 0))) :
    w.cell? ⟨n, 0, none⟩ = some a' ∧ w.cell? ⟨n, 1, none⟩ = some b' ∧ w.cell? ⟨n, 2, none⟩ = some c' ∧ w.cell? ⟨n, 3, none⟩ = some d' ∧ w.cell? ⟨n, 4, none⟩ = some e' ∧ w.cell? ⟨n, 5, none⟩ = some f' ∧ w.cell? ⟨n, 6, none⟩ = some g' ∧ w.cell? ⟨n, 7, none⟩ = some h' ∧ w.cell? ⟨n, 8, none⟩ = some i' ∧ w.cell? ⟨n, 9, none⟩ = some j' ∧ w.cell? ⟨n, 10, none⟩ = some k' ∧ w.cell? ⟨n, 11, none⟩ = some l' ∧ w.cell? ⟨n, 12, none⟩ = some m' ∧ w.cell? ⟨n, 13, none⟩ = some n' ∧ w.cell? ⟨n, 14, none⟩ = some o' ∧ w.cell? ⟨n, 15, none⟩ = some p' ∧ w.cell? ⟨n, 16, none⟩ = some q' ∧ w.cell? ⟨n, 17, none⟩ = some r' :=
  ⟨cell_of_block hh (i := 0) rfl, cell_of_block hh (i := 1) rfl, cell_of_block hh (i := 2) rfl, cell_of_block hh (i := 3) rfl, cell_of_block hh (i := 4) rfl, cell_of_block hh (i := 5) rfl, cell_of_block hh (i := 6) rfl, cell_of_block hh (i := 7) rfl, cell_of_block hh (i := 8) rfl, cell_of_block hh (i := 9) rfl, cell_of_block hh (i := 10) rfl, cell_of_block hh (i := 11) rfl, cell_of_block hh (i := 12) rfl, cell_of_block hh (i := 13) rfl, cell_of_block hh (i := 14) rfl, cell_of_block hh (i := 15) rfl, cell_of_block hh (i := 16) rfl, cell_of_block hh (i := 17) rfl⟩

theorem free18 {w : World} {n : Nat} {C : Array Value} {t : TypeId} (hh : w.heap[n]? = some (.cells C t (0, 0))) :
    w.frozen? ⟨n, 0, none⟩ = false ∧ w.frozen? ⟨n, 1, none⟩ = false ∧ w.frozen? ⟨n, 2, none⟩ = false ∧ w.frozen? ⟨n, 3, none⟩ = false ∧ w.frozen? ⟨n, 4, none⟩ = false ∧ w.frozen? ⟨n, 5, none⟩ = false ∧ w.frozen? ⟨n, 6, none⟩ = false ∧ w.frozen? ⟨n, 7, none⟩ = false ∧ w.frozen? ⟨n, 8, none⟩ = false ∧ w.frozen? ⟨n, 9, none⟩ = false ∧ w.frozen? ⟨n, 10, none⟩ = false ∧ w.frozen? ⟨n, 11, none⟩ = false ∧ w.frozen? ⟨n, 12, none⟩ = false ∧ w.frozen? ⟨n, 13, none⟩ = false ∧ w.frozen? ⟨n, 14, none⟩ = false ∧ w.frozen? ⟨n, 15, none⟩ = false ∧ w.frozen? ⟨n, 16, none⟩ = false ∧ w.frozen? ⟨n, 17, none⟩ = false :=
  ⟨free_of_block (i := 0) hh, free_of_block (i := 1) hh, free_of_block (i := 2) hh, free_of_block (i := 3) hh, free_of_block (i := 4) hh, free_of_block (i := 5) hh, free_of_block (i := 6) hh, free_of_block (i := 7) hh, free_of_block (i := 8) hh, free_of_block (i := 9) hh, free_of_block (i := 10) hh, free_of_block (i := 11) hh, free_of_block (i := 12) hh, free_of_block (i := 13) hh, free_of_block (i := 14) hh, free_of_block (i := 15) hh, free_of_block (i := 16) hh, free_of_block (i := 17) hh⟩

theorem oneAll {l : List Value} (h : l.all (·.oneCell') = true) : l.toArray.all (·.oneCell') = true := by simpa using h
theorem oneMem {l : List Value} (h : l.all (·.oneCell') = true) : ∀ u ∈ l.toArray.toList, u.oneCell' = true := fun u hu => List.all_eq_true.1 h u (by simpa using hu)

/-- A struct is stored whole. -/
theorem wpList_store_row {P : Program} {ops : Array Oper} {rest : List Oper} {op : Oper} {a : Act} {w : World} {Q : Exit → Act → World → Prop} (hgd : op.guard = none) (ty : TypeId) (x y : Operand) (ho : op.op = .store ty x y)
    (g : Nat) (cells : Array Value) {old : Array Value} {t : TypeId} (hx : a.eval x = .pointer (some ⟨g, 0, none⟩)) (hy : a.eval y = .agg cells)
    (hg : w.heap[g]? = some (.cells old t (0, 0))) (hi : (P.info? ty).map (·.size) = some cells.size) (hs : old.size = cells.size) (h1 : cells.all (·.oneCell') = true)
    (h : wpList P ops Q rest (a.put op.dst undef) (w.setRow g cells)) : wpList P ops Q (op :: rest) a w :=
  wpList_plain hgd fun _ hK => by
    unfold Oper.wp execOp
    simp only [ho, hx, hy, Instr.storeAt, Instr.sureAddr, Sem.run_bind, Sem.run_pure, Result.andThen_ok, run_storeVar_row w g t ty old cells hg hi hs h1]
    exact hK _ _ h

theorem wpList_load_row {P : Program} {ops : Array Oper} {rest : List Oper} {op : Oper} {a : Act} {w : World} {Q : Exit → Act → World → Prop} (hgd : op.guard = none) (ty : TypeId) (x : Operand) (ho : op.op = .load ty x)
    (g : Nat) (cells : Array Value) {t : TypeId} {fz : Nat × Nat} {d : TypeDesc} (hx : a.eval x = .pointer (some ⟨g, 0, none⟩)) (hg : w.heap[g]? = some (.cells cells t fz)) (hu : P.underlying ty = some d) (hd : (match d with | .struct _ | .array _ _ => true | _ => false) = true)
    (hi : (P.info? ty).map (·.size) = some cells.size) (h : wpList P ops Q rest (a.put op.dst (.agg cells)) w) : wpList P ops Q (op :: rest) a w :=
  wpList_plain hgd fun _ hK => by
    unfold Oper.wp execOp
    simp only [ho, hx, Instr.loadAt, Instr.sureAddr, Sem.run_bind, Sem.run_pure, Result.andThen_ok, run_loadVar_row w g t ty cells fz d hg hu hd hi]
    exact hK _ _ h

/-- A struct is copied into the result. -/
theorem wp_copyout {P : Program} {id : Nat} {o1 o2 : Oper} {a : Act} {w : World} {Q : Exit → Act → World → Prop} (ty : TypeId) (p q d : Tmp) (g1 : o1.guard = none) (g2 : o2.guard = none) (h1 : o1.op = .load ty (.tmp p)) (d1 : o1.dst = some d) (h2 : o2.op = .store ty (.tmp q) (.tmp d)) (d2 : o2.dst = none)
    (b r : Nat) (C : Array Value) {old : Array Value} {t t' : TypeId} {fz : Nat × Nat} {ds : TypeDesc} (hb : w.heap[b]? = some (.cells C t fz)) (hr : w.heap[r]? = some (.cells old t' (0, 0))) (hu : P.underlying ty = some ds) (hd : (match ds with | .struct _ | .array _ _ => true | _ => false) = true)
    (hi : (P.info? ty).map (·.size) = some C.size) (hs : old.size = C.size) (hC : C.all (·.oneCell') = true) (hp : a.eval (.tmp p) = .pointer (some ⟨b, 0, none⟩)) (hq : (a.put (some d) (.agg C)).eval (.tmp q) = .pointer (some ⟨r, 0, none⟩)) (hv : (a.put (some d) (.agg C)).eval (.tmp d) = .agg C)
    (h : Q .normal (a.put (some d) (.agg C)) (w.setRow r C)) : (Code.region id #[o1, o2] false).wp P Q a w := by
  refine wp_region_lit (l := [o1, o2]) ?_
  refine wpList_load_row g1 ty _ h1 b C hp hb hu hd hi ?_
  rw [d1]
  refine wpList_store_row g2 ty _ _ h2 r C hq hv hr hi hs hC ?_
  rw [d2]
  exact h

theorem grown_setRow (w : World) (g : Nat) (cs : Array Value) : w.grownBy (w.setRow g cs) (some g) := by
  refine ⟨rfl, rfl, rfl, by simp [World.setRow], fun k hk hne => ?_⟩
  have : g ≠ k := fun e => hne (by rw [e])
  simp only [World.setRow]
  rw [Array.getElem?_modify, if_neg this]

/-- The result is a struct in memory. -/
theorem results_row {P : Program} {fn : Func} {p : Tmp} {ty : TypeId} {w : World} {g : Nat} {tmps : Array Value} {C : Array Value} {t : TypeId} {fz : Nat × Nat} {d : TypeDesc} (h : fn.results = #[.cell p ty]) (hp : tmps[p]?.getD undef = .pointer (some ⟨g, 0, none⟩))
    (hg : w.heap[g]? = some (.cells C t fz)) (hu : P.underlying ty = some d) (hd : (match d with | .struct _ | .array _ _ => true | _ => false) = true) (hi : (P.info? ty).map (·.size) = some C.size) : (results fn tmps).run P w = .ok (.agg C) w := by
  have hl := run_loadVar_row w g t ty C fz d hg hu hd hi
  simp only [results, h]
  simp [Sem.run_bind, Result.andThen, hp, asAddr, hl]

/-- The rest of a row. -/
theorem IntsIn.tail {c : Ctx} {w : World} {g o n cap a : Nat} {l : List Nat} (h : IntsIn c w (.slice (some ⟨g, o, none⟩) n cap) (a :: l)) : IntsIn c w (.slice (some ⟨g, o + 1, none⟩) l.length (cap - 1)) l := by
  obtain ⟨ao', cap', h1, h2, h3, h4⟩ := h
  cases h1
  refine ⟨_, _, rfl, by simp at h2; omega, by omega, ?_⟩
  rcases h4 with h4 | ⟨g', o', h5, h6, h7⟩
  · cases h4
  · cases h5
    refine .inr ⟨g, o + 1, rfl, h6, fun i k hi => ?_⟩
    have := h7 (i + 1) k (by simpa using hi)
    rwa [show o + (i + 1) = o + 1 + i by omega] at this
end Go.Proofs.Ytkpfbgeaodopoaa.fnDirect
