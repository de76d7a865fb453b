/-
  What a call makes by appends: rows that the call owns. Generic: no program in sight.
-/
import Derived.Test.YtkpfbgeaodopoaaRows
import Derived.WalkKit
import Derived.WalkSpells
import Derived.WalkLawsBesides
import Derived.Below
import Derived.Lib.Hide
import Derived.Outline
import Derived.OpenShut
import Derived.Handy
import Derived.RegionTactic
import Derived.ChangeAlike
import Derived.OwnWalk
import Derived.Deep.RegionWith
import Derived.Deep.RegionHeld3
import Derived.Deep.QuietTactic
import Derived.BigQuiet
import Derived.Deep.Slices
import Derived.Deep.Strs
import Derived.Deep.Fields
import Derived.ChangeSame
namespace Go.Proofs.Ytkpfbgeaodopoaa
open Go.RowKit

/-- A Bool is handed back, of which this is known. -/
def IsB (p : Bool → Prop) (e : Ending) : Prop := ∃ r, e = .returned (.bool r) ∧ p r

theorem ret_bool {x y : Bool} (h : y = x) : Ending.returned (.bool x) = Ending.returned (.bool y) := by rw [h]

theorem below_step {B : Nat} {w x w1 : World} (hB : B ≤ w.heap.size) (h : Below B w x) (hb : Below x.heap.size x w1) : Below B w w1 := h.trans (hb.mono (Nat.le_trans hB h.size))

/-- An append in a region that draws. -/
theorem step_append {P : Program} {ops : Array Oper} {o : Oper} {a : Act} {w : World} {K : Act → World → Prop} {Q : Exit → Act → World → Prop} {E : Prop} {R : Value → World → Prop}
    (hg : o.guard = none) (s x : Operand) (t : TypeId) (hop : o.op = Op.call { callee := Callee.builtin Builtin.append, args := #[s, x], argTypes := #[t, t] })
    (hrun : ∃ v' w', (Builtin.append_ #[t, t] o.type #[a.eval s, a.eval x]).run P w = .ok v' w' ∧ R v' w')
    (hK : ∀ v' w', R v' w' → K (a.put o.dst v') w') :
    if Region.wanted o (yielded ops a.tmps) = true then Oper.wp P o a w K Q else E := by
  have hw : Region.wanted o (yielded ops a.tmps) = true := by simp [Region.wanted, hg]
  rw [if_pos hw]
  obtain ⟨v', w', hr, h⟩ := hrun
  unfold Oper.wp
  simp [execOp, hop, resolve, invoke, builtin, hr, Result.andThen]
  exact hK v' w' h

/-- An append in a row of operations, by what its run is known to leave. -/
theorem wpList_append_run {P : Program} {w : World} {ops : Array Oper} {rest : List Oper} {o : Oper} {a : Act} {Q : Exit → Act → World → Prop} {R : Value → World → Prop} (hgd : o.guard = none) (s x : Operand) (t : TypeId)
    (ho : o.op = .call { callee := .builtin .append, args := #[s, x], argTypes := #[t, t] })
    (hrun : ∃ v' w', (Builtin.append_ #[t, t] o.type #[a.eval s, a.eval x]).run P w = .ok v' w' ∧ R v' w')
    (h : ∀ v' w', R v' w' → wpList P ops Q rest (a.put o.dst v') w') : wpList P ops Q (o :: rest) a w := by
  refine wpList_plain hgd fun K hK => ?_
  obtain ⟨v', w', hr, hR⟩ := hrun
  unfold Oper.wp
  simp [execOp, ho, resolve, invoke, builtin, hr, Result.andThen]
  exact hK _ _ (h v' w' hR)

theorem own_ne {w : World} {B B' : Nat} {e e' : TypeId} {size size' n n' : Nat} {v v' : Value} {xs xs' : List Value} (h : w.ownsRow B e size v n xs) (h' : w.ownsRow B' e' size' v' n' xs') (hne : e ≠ e') : v.ownBlock = none ∨ v.ownBlock ≠ v'.ownBlock := by
  rcases h.2 with ⟨rfl, -⟩ | ⟨g, cap, cur, rfl, -, hg, -⟩
  · exact .inl rfl
  · rcases h'.2 with ⟨rfl, -⟩ | ⟨g', cap', cur', rfl, -, hg', -⟩
    · exact .inr (fun h => by simp [Value.ownBlock] at h)
    · refine .inr (fun h => ?_)
      have h2 : g = g' := by simpa [Value.ownBlock] using h
      subst h2
      rw [hg] at hg'
      have := Option.some.inj hg'
      simp at this
      exact hne this.2

theorem owns_slice {w : World} {B : Nat} {e : TypeId} {size n : Nat} {v : Value} {xs : List Value} (h : w.ownsRow B e size v n xs) : ∃ ao cap, v = .slice ao n cap := by
  rcases h.2 with ⟨rfl, rfl⟩ | ⟨g, cap, cur, rfl, -⟩
  · exact ⟨_, _, rfl⟩
  · exact ⟨_, _, rfl⟩

theorem owns_mono {w : World} {B B' : Nat} {e : TypeId} {size n : Nat} {v : Value} {xs : List Value} (h : w.ownsRow B e size v n xs) (hb : B' ≤ B) : w.ownsRow B' e size v n xs := by
  refine ⟨h.1, ?_⟩
  rcases h.2 with h1 | ⟨g, cap, cur, h1, h2, h3⟩
  · exact .inl h1
  · exact .inr ⟨g, cap, cur, h1, Nat.le_trans hb h2, h3⟩

theorem own_form {w : World} {B : Nat} {e : TypeId} {size n : Nat} {v : Value} {xs : List Value} (h : w.ownsRow B e size v n xs) : (v = .slice none 0 0 ∧ n = 0) ∨ ∃ g cap, v = .slice (some ⟨g, 0, none⟩) n cap ∧ B ≤ g ∧ g < w.heap.size ∧ n ≤ cap ∧ cap ≤ maxLen := by
  rcases h.2 with h1 | ⟨g, cap, cur, rfl, hb, hg, hn, hm, -⟩
  · exact .inl h1
  · exact .inr ⟨g, cap, rfl, hb, (Array.getElem?_eq_some_iff.1 hg).1, hn, hm⟩

theorem grown_of_below {w w' : World} (hb : Below w.heap.size w w') : w.grownBy w' none := ⟨hb.os, hb.tape, hb.output, hb.size, fun k hk _ => hb.block k hk⟩

theorem own_below {w w' : World} {B : Nat} {e : TypeId} {size n : Nat} {v : Value} {xs : List Value} (h : w.ownsRow B e size v n xs) (hb : Below w.heap.size w w') : w'.ownsRow B e size v n xs :=
  h.kept (grown_of_below hb) (by cases v.ownBlock <;> simp)

theorem grown_set (w : World) (a : Addr) (u : Value) : w.grownBy (w.setCell a u) (some a.block) := by
  refine ⟨rfl, rfl, rfl, by simp, fun k hk hne => ?_⟩
  exact Below.heap_setCell _ _ _ _ (fun h => hne (by rw [h]))

/-- A row stays where a cell below its base is written. -/
theorem own_set {w : World} {B : Nat} {e : TypeId} {size n : Nat} {v : Value} {xs : List Value} (h : w.ownsRow B e size v n xs) {a : Addr} (ha : a.block < B) (u : Value) : (w.setCell a u).ownsRow B e size v n xs := by
  refine h.kept (grown_set w a u) ?_
  cases hb : v.ownBlock with
  | none => exact .inl rfl
  | some b => exact .inr (fun hc => by have := (h.lt b hb).1; have h2 : b = a.block := Option.some.inj hc; omega)

theorem grown_drew (w : World) (row : Option Nat) : w.grownBy w.drew row := ⟨rfl, rfl, rfl, Nat.le_refl _, fun _ _ _ => rfl⟩

/-- An append of one element of one cell to a row that the call owns. -/
theorem app1 {P : Program} {wr w4 : World} {B k : Nat} {v : Value} (t ty e : TypeId) {z : Value} {bytes : Nat} (ht : P.underlying t = some (.slice e)) (hinfo : (P.info? e).map (fun i => (i.zero, i.size, i.bytes)) = some (some z, 1, bytes)) (hzs : z.cells.size = 1)
    {L : List Value} (h : wr.ownsRow B e 1 v k L) (hB : B ≤ wr.heap.size) (hg : wr.grownBy w4 none) (hk : k + 1 ≤ 100000000) (hb : bytes ≤ 1000) (x : Value) (hx1 : x.oneCell' = true) (g : Addr) (c : Nat) (hx : w4.cell? g = some x) :
    ∃ v' w', (Builtin.append_ #[t, t] ty #[v, .slice (some g) 1 c]).run P w4 = .ok v' w' ∧ (w'.ownsRow B e 1 v' (k + 1) (L ++ [x]) ∧ w4.grownBy w' v.ownBlock ∧ ∀ b, v.ownBlock = some b → B ≤ b ∧ b < wr.heap.size) := by
  obtain ⟨i0, hi, hz0, hz1, hz2⟩ := info_parts hinfo
  have h' := h.kept hg (by cases v.ownBlock <;> simp)
  obtain ⟨v', w', hr, h4, h5, -⟩ := run_append_own (P := P) w4 B t ty e i0 z 1 bytes ht hi hz0 hz1 hz2 hzs (by decide) v k L h' g 1 c [x] rfl
    (fun j u hj => by rcases j with _ | j <;> simp at hj; subst hj; exact (show w4.cell? (g.add 0) = some x from hx))
    (fun u hu => by simp at hu; subst hu; exact hx1) (by unfold maxLen; omega) (by have := Nat.mul_le_mul (show k + 1 ≤ 100000000 from hk) hb; omega) (Nat.le_trans hB hg.size)
  exact ⟨v', w', hr, h4, h5, fun b hb => h.lt b hb⟩

/-- An append of one element, of however many cells, to a row that the call owns. -/
theorem appS {P : Program} {wr w4 : World} {B k size : Nat} {v : Value} (t ty e : TypeId) {z : Value} {bytes : Nat} (ht : P.underlying t = some (.slice e)) (hinfo : (P.info? e).map (fun i => (i.zero, i.size, i.bytes)) = some (some z, size, bytes)) (hzs : z.cells.size = size) (hs0 : 0 < size)
    {L : List Value} (h : wr.ownsRow B e size v k L) (hB : B ≤ wr.heap.size) (hg : wr.grownBy w4 none) (hk : k + 1 ≤ 100000000) (hb : bytes ≤ 1000) (news : List Value) (hl : news.length = size) (hx1 : ∀ u ∈ news, u.oneCell' = true) (g : Addr) (c : Nat) (hx : ∀ j u, news[j]? = some u → w4.cell? (g.add j) = some u) :
    ∃ v' w', (Builtin.append_ #[t, t] ty #[v, .slice (some g) 1 c]).run P w4 = .ok v' w' ∧ (w'.ownsRow B e size v' (k + 1) (L ++ news) ∧ w4.grownBy w' v.ownBlock ∧ ∀ b, v.ownBlock = some b → B ≤ b ∧ b < wr.heap.size) := by
  obtain ⟨i0, hi, hz0, hz1, hz2⟩ := info_parts hinfo
  have h' := h.kept hg (by cases v.ownBlock <;> simp)
  obtain ⟨v', w', hr, h4, h5, -⟩ := run_append_own (P := P) w4 B t ty e i0 z size bytes ht hi hz0 hz1 hz2 hzs hs0 v k L h' g 1 c news (by omega) hx hx1 (by unfold maxLen; omega) (by have := Nat.mul_le_mul (show k + 1 ≤ 100000000 from hk) hb; omega) (Nat.le_trans hB hg.size)
  exact ⟨v', w', hr, h4, h5, fun b hb => h.lt b hb⟩

/-- The cells of a new block that lie at its beginning. -/
theorem cells_new {W : World} {C : Array Value} {t : TypeId} {n : Nat} (h : W.heap.size = n) : ∀ j u, C.toList[j]? = some u → (W.alloc (.cells C t)).cell? ((⟨n, 0, none⟩ : Addr).add j) = some u := by
  subst h
  intro j u hj
  rw [Addr.add_lit, Nat.zero_add, World.cell?_alloc_mark]
  simpa using hj

/-- An append of one element of one cell within the capacity: the row stays where it is. -/
theorem app1_fits {P : Program} {w4 : World} {B g k cap : Nat} (t ty e : TypeId) {z : Value} {bytes : Nat} (ht : P.underlying t = some (.slice e)) (hinfo : (P.info? e).map (fun i => (i.zero, i.size, i.bytes)) = some (some z, 1, bytes))
    {L : List Value} (h : w4.ownsRow B e 1 (.slice (some ⟨g, 0, none⟩) k cap) k L) (x : Value) (hx1 : x.oneCell' = true) (ad : Addr) (c : Nat) (hx : w4.cell? ad = some x) (hk : k < cap) :
    ∃ v' w', (Builtin.append_ #[t, t] ty #[.slice (some ⟨g, 0, none⟩) k cap, .slice (some ad) 1 c]).run P w4 = .ok v' w' ∧ (v' = .slice (some ⟨g, 0, none⟩) (k + 1) cap ∧ w'.ownsRow B e 1 (.slice (some ⟨g, 0, none⟩) (k + 1) cap) (k + 1) (L ++ [x]) ∧ w4.grownBy w' (some g)) := by
  obtain ⟨i0, hi, hz0, hz1, hz2⟩ := info_parts hinfo
  obtain ⟨w', hr, h4, h5⟩ := run_append_fits (P := P) w4 B t ty e i0 1 ht hi hz1 g k cap L h ad 1 c [x] rfl
    (fun j u hj => by rcases j with _ | j <;> simp at hj; subst hj; exact (show w4.cell? (ad.add 0) = some x from hx))
    (fun u hu => by simp at hu; subst hu; exact hx1) (by omega)
  exact ⟨_, w', hr, rfl, h4, h5⟩

/-- The cell of a new block of one cell. -/
theorem cell_at_new {W : World} {v : Value} {t : TypeId} {n : Nat} (h : W.heap.size = n) : (W.alloc (.cells #[v] t)).cell? ⟨n, 0, none⟩ = some v := by
  subst h
  rw [World.cell?_alloc_mark]
  rfl

/-- A cell of a new block. -/
theorem cell_at {W : World} {C : Array Value} {t : TypeId} {n j : Nat} {v : Value} (h : W.heap.size = n) (hc : C[j]? = some v) : (W.alloc (.cells C t)).cell? ⟨n, j, none⟩ = some v := by
  subst h
  rw [World.cell?_alloc_mark]
  exact hc

/-- A cell stays behind a new block. -/
theorem cell_past {W : World} {a : Addr} {v : Value} (o : Obj) (h : W.cell? a = some v) : (W.alloc o).cell? a = some v := cell_later (Below.alloc (Below.refl _ _) (Nat.le_refl _) o) h

/-- A new row without elements. -/
theorem own_new (w : World) (e : TypeId) : (w.alloc (.cells #[] e)).ownsRow w.heap.size e 1 (.slice (some ⟨w.heap.size, 0, none⟩) 0 0) 0 [] :=
  ⟨by simp, .inr ⟨w.heap.size, 0, #[], rfl, Nat.le_refl _, heap_alloc_new w _, Nat.le_refl _, Nat.zero_le _, by simp, by simp⟩⟩

/-- The cells of such a row. -/
theorem own_cell {w : World} {B : Nat} {e : TypeId} {n : Nat} {v : Value} {xs : List Value} (h : w.ownsRow B e 1 v n xs) {g cap : Nat} (hv : v = .slice (some ⟨g, 0, none⟩) n cap) {j : Nat} (hj : j < n) {x : Value} (hx : xs[j]? = some x) : w.cell? ⟨g, j, none⟩ = some x := by
  subst hv
  have hc := World.ownsRow.cellAt h j (by omega)
  exact hc.trans hx
end Go.Proofs.Ytkpfbgeaodopoaa
