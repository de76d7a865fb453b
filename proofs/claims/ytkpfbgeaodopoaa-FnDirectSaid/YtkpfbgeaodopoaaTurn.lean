/-
  Blocks that stand while blocks of some few element types are written. Generic: no program in sight.
-/
import Derived.Test.YtkpfbgeaodopoaaOwn
import Derived.OneCell
import Derived.Maps.OwnSet
import Derived.WalkSmall
namespace Go.Proofs.Ytkpfbgeaodopoaa
open Go.RowKit
set_option linter.unusedSimpArgs false
set_option linter.unusedVariables false

/-- An object that nobody writes. -/
def stays (bad : TypeId → Bool) : Obj → Bool
  | .cells _ t _ => !bad t
  | _ => true

/-- Blocks of other types stand, and so do all blocks below a number. -/
structure Turned (bad : TypeId → Bool) (B : Nat) (w w' : World) : Prop where
  os : w'.os = w.os
  tape : w'.tape = w.tape
  output : w'.output = w.output
  size : w.heap.size ≤ w'.heap.size
  low : ∀ (b : Nat), b < B → b < w.heap.size → w'.heap[b]? = w.heap[b]?
  still : ∀ (b : Nat) (o : Obj), w.heap[b]? = some o → stays bad o = true → w'.heap[b]? = some o

theorem Turned.refl (bad : TypeId → Bool) (B : Nat) (w : World) : Turned bad B w w := ⟨rfl, rfl, rfl, Nat.le_refl _, fun _ _ _ => rfl, fun _ _ h _ => h⟩

theorem Turned.trans {bad : TypeId → Bool} {B : Nat} {a b c : World} (h : Turned bad B a b) (k : Turned bad B b c) : Turned bad B a c :=
  ⟨k.os.trans h.os, k.tape.trans h.tape, k.output.trans h.output, Nat.le_trans h.size k.size, fun i hi hl => (k.low i hi (Nat.lt_of_lt_of_le hl h.size)).trans (h.low i hi hl),
    fun i o ho hs => k.still i o (h.still i o ho hs) hs⟩

theorem Turned.mono {bad bad' : TypeId → Bool} {B B' : Nat} {a b : World} (h : Turned bad B a b) (hb : B' ≤ B) (hbad : ∀ t, bad t = true → bad' t = true) : Turned bad' B' a b := by
  refine ⟨h.os, h.tape, h.output, h.size, fun i hi hl => h.low i (by omega) hl, fun i o ho hs => h.still i o ho ?_⟩
  cases o <;> simp only [stays] at hs ⊢
  cases hx : bad _ with
  | false => rfl
  | true => rw [hbad _ hx] at hs; exact hs

theorem Turned.of_below {bad : TypeId → Bool} {B : Nat} {w w' : World} (h : Below w.heap.size w w') : Turned bad B w w' :=
  ⟨h.os, h.tape, h.output, h.size, fun i _ hl => h.block i hl, fun i o ho _ => (h.block i (lt_of_block ho)).trans ho⟩

theorem Turned.alloc {bad : TypeId → Bool} {B : Nat} {w w' : World} (h : Turned bad B w w') (o : Obj) : Turned bad B w (w'.alloc o) :=
  h.trans (Turned.of_below (Below.alloc (Below.refl _ _) (Nat.le_refl _) o))

theorem Turned.drew {bad : TypeId → Bool} {B : Nat} {w w' : World} (h : Turned bad B w w') : Turned bad B w w'.drew := ⟨h.os, h.tape, h.output, h.size, h.low, h.still⟩

theorem Turned.below {bad : TypeId → Bool} {B : Nat} {w w' : World} (h : Turned bad B w w') (hB : B ≤ w.heap.size) : Below B w w' :=
  ⟨h.os, h.tape, h.output, h.size, fun k hk => h.low k hk (by omega)⟩

/-- One block that may be written. -/
theorem Turned.one {bad : TypeId → Bool} {B : Nat} {w x x' : World} (h : Turned bad B w x) {g : Nat} (hg : x.grownBy x' (some g)) (hB : B ≤ g) {C : Array Value} {t : TypeId} {fz : Nat × Nat} (hb : x.heap[g]? = some (.cells C t fz)) (ht : bad t = true) : Turned bad B w x' := by
  refine h.trans ⟨hg.os, hg.tape, hg.output, hg.size, fun b hlt hl => hg.block b hl (by simp; omega), fun b o ho hs => ?_⟩
  refine (hg.block b (lt_of_block ho) (fun e => ?_)).trans ho
  have e2 : b = g := Option.some.inj e
  subst e2
  rw [hb] at ho
  have e3 := Option.some.inj ho
  subst e3
  simp [stays, ht] at hs

/-- A row that the call owns. -/
theorem Turned.own {bad : TypeId → Bool} {B B' : Nat} {w x x' : World} (h : Turned bad B w x) {v : Value} (hg : x.grownBy x' v.ownBlock) {e : TypeId} {size n : Nat} {xs : List Value} (ho : x.ownsRow B' e size v n xs) (hB : B ≤ B') (ht : bad e = true) : Turned bad B w x' := by
  rcases ho.2 with ⟨rfl, -⟩ | ⟨g, cap, cur, rfl, hb, hh, -⟩
  · exact h.trans (Turned.of_below ⟨hg.os, hg.tape, hg.output, hg.size, fun k hk => hg.block k hk (by simp [Value.ownBlock])⟩)
  · exact h.one (g := g) hg (Nat.le_trans hB hb) hh ht

theorem Turned.setCell {bad : TypeId → Bool} {B : Nat} {w x : World} (h : Turned bad B w x) {a : Addr} (hB : B ≤ a.block) {C : Array Value} {t : TypeId} {fz : Nat × Nat} (hb : x.heap[a.block]? = some (.cells C t fz)) (ht : bad t = true) (u : Value) : Turned bad B w (x.setCell a u) :=
  h.one (grown_set x a u) hB hb ht

/-- What stands. -/
theorem Turned.row {bad : TypeId → Bool} {B B' : Nat} {w w' : World} (h : Turned bad B w w') {e : TypeId} {size n : Nat} {v : Value} {xs : List Value} (ho : w.ownsRow B' e size v n xs) (ht : bad e = false) : w'.ownsRow B' e size v n xs := by
  refine ⟨ho.1, ?_⟩
  rcases ho.2 with h1 | ⟨g, cap, cur, h1, h2, h3, h4⟩
  · exact .inl h1
  · exact .inr ⟨g, cap, cur, h1, h2, h.still _ _ h3 (by simp [stays, ht]), h4⟩

theorem Turned.map {bad : TypeId → Bool} {B : Nat} {w w' : World} (h : Turned bad B w w') {H : Type} {P : Program} {k : TypeId} {R : Value → Option (DataW H × List MemPlace)} {b n : Nat} {D : DataW H} (hm : w.ownsMap P k R b n D) : w'.ownsMap P k R b n D := by
  obtain ⟨es, clock, hb, r⟩ := hm
  exact ⟨es, clock, h.still _ _ hb rfl, r⟩

/-- A map whose elements read as they did, and otherwise, too. -/
theorem ownsMap_stay {H : Type} {P : Program} {k : TypeId} {R R' : Value → Option (DataW H × List MemPlace)} {w : World} {b n : Nat} {D : DataW H} (hm : w.ownsMap P k R b n D) (hs : ∀ v z, R v = some z → R' v = some z) : w.ownsMap P k R' b n D := by
  obtain ⟨es, clock, hb, F, h2, rfl⟩ := hm
  obtain ⟨F1, hmap, -⟩ := F.stay (fun x _ z hz => hs x.val z hz)
  exact ⟨es, clock, hb, F1, h2, by rw [hmap]⟩

/-- A block's cells. -/
theorem cell_of_block {w : World} {b i : Nat} {C : Array Value} {t : TypeId} {fz : Nat × Nat} {v : Value} (h : w.heap[b]? = some (.cells C t fz)) (hc : C[i]? = some v) : w.cell? ⟨b, i, none⟩ = some v := by simp [World.cell?, h, hc]
theorem free_of_block {w : World} {b i : Nat} {C : Array Value} {t : TypeId} (h : w.heap[b]? = some (.cells C t (0, 0))) : w.frozen? ⟨b, i, none⟩ = false := by simp [World.frozen?, h]
theorem block_setCell {w : World} {b i : Nat} {C : Array Value} {t : TypeId} {fz : Nat × Nat} {u : Value} (h : w.heap[b]? = some (.cells C t fz)) : (w.setCell ⟨b, i, none⟩ u).heap[b]? = some (.cells (C.setIfInBounds i u) t fz) := by
  have hlt := lt_of_block h
  have h' : w.heap[b] = .cells C t fz := by simpa [Array.getElem?_eq_getElem hlt] using h
  show (w.heap.modify b _)[b]? = _
  rw [Array.getElem?_eq_getElem (by simpa using hlt), Array.getElem_modify_self, h']
  rfl
theorem block_set_other {w : World} {b : Nat} {a : Addr} {o : Obj} (h : w.heap[b]? = some o) (hne : b ≠ a.block) (u : Value) : (w.setCell a u).heap[b]? = some o := by
  rw [Below.heap_setCell _ _ _ _ hne]; exact h
theorem block_alloc {w : World} {b : Nat} {o : Obj} (h : w.heap[b]? = some o) (o' : Obj) : (w.alloc o').heap[b]? = some o := by
  rw [(Below.alloc (Below.refl w.heap.size w) (Nat.le_refl _) o').block b (lt_of_block h)]; exact h
theorem block_new (w : World) (o : Obj) : (w.alloc o).heap[w.heap.size]? = some o := heap_alloc_new w o
theorem block_new' {w : World} {n : Nat} (h : w.heap.size = n) (o : Obj) : (w.alloc o).heap[n]? = some o := by subst h; exact heap_alloc_new w o
theorem block_grown {w w' : World} {b : Nat} {o : Obj} {row : Option Nat} (h : w.heap[b]? = some o) (hg : w.grownBy w' row) (hne : some b ≠ row) : w'.heap[b]? = some o :=
  (hg.block b (lt_of_block h) hne).trans h

/-- Blocks of different element types are not the same. -/
theorem own_block_ne {w : World} {B : Nat} {e : TypeId} {size n : Nat} {v : Value} {xs : List Value} (h : w.ownsRow B e size v n xs) {b : Nat} {C : Array Value} {t : TypeId} {fz : Nat × Nat} (hb : w.heap[b]? = some (.cells C t fz)) (hne : e ≠ t) : some b ≠ v.ownBlock := by
  rcases h.2 with ⟨rfl, -⟩ | ⟨g, cap, cur, rfl, -, hg, -⟩
  · simp [Value.ownBlock]
  · intro e2
    have e3 : b = g := by simpa [Value.ownBlock] using e2
    subst e3
    rw [hg] at hb
    have := Option.some.inj hb
    simp at this
    exact hne this.2.1
end Go.Proofs.Ytkpfbgeaodopoaa
