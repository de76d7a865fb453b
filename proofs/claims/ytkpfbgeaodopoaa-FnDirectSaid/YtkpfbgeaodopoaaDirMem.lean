/-
  FnDirect: the builder in memory, and what it has built.
-/
import Derived.Test.YtkpfbgeaodopoaaDirLaw
import Derived.Test.YtkpfbgeaodopoaaTurn
import Derived.Maps.Range
import Derived.Deep.RegionLaw
namespace Go.Proofs.Ytkpfbgeaodopoaa.fnDirect
open Go.RowKit
set_option linter.unusedSimpArgs false
set_option linter.unusedVariables false

/-- A node in memory. -/
def NdIn (w : World) (a : Addr) (e : Nd) : Prop :=
  w.cell? a = some (.int .i64 e.kind) ∧ w.cell? ⟨a.block, a.off + 1, none⟩ = some (.int .i64 e.op) ∧ w.cell? ⟨a.block, a.off + 2, none⟩ = some (.string e.text) ∧ w.cell? ⟨a.block, a.off + 3, none⟩ = some (.int .i64 e.flag) ∧ w.cell? ⟨a.block, a.off + 4, none⟩ = some (.int .i64 e.size)

theorem NdIn.grown {w w' : World} {a : Addr} {e : Nd} {row : Option Nat} (h : NdIn w a e) (hg : w.grownBy w' row) (hne : some a.block ≠ row) : NdIn w' a e := by
  obtain ⟨h0, h1, h2, h3, h4⟩ := h
  exact ⟨hg.cell h0 hne, hg.cell h1 hne, hg.cell h2 hne, hg.cell h3 hne, hg.cell h4 hne⟩

theorem NdIn.below {w w' : World} {a : Addr} {e : Nd} (h : NdIn w a e) (hb : Below w.heap.size w w') : NdIn w' a e := h.grown (grown_of_below hb) (by simp)

/-- A list of nodes that came in. -/
def NdsIn (w : World) (c : Option Addr) (len cap : Nat) (E : Nat → Nd) : Prop :=
  (c = none ∧ len = 0 ∧ cap = 0) ∨ ∃ a, c = some a ∧ len ≤ cap ∧ cap ≤ maxLen ∧ ∀ i, i < len → NdIn w (a.add (i * 5)) (E i)

theorem NdsIn.below {w w' : World} {c : Option Addr} {len cap : Nat} {E : Nat → Nd} (h : NdsIn w c len cap E) (hb : Below w.heap.size w w') : NdsIn w' c len cap E := by
  rcases h with h | ⟨a, rfl, h1, h2, h3⟩
  · exact .inl h
  · exact .inr ⟨a, rfl, h1, h2, fun i hi => (h3 i hi).below hb⟩

theorem or3 {a b p q r : Prop} (h : a ∨ b ∨ r) (h1 : a → p) (h2 : b → q) : p ∨ q ∨ r := h.imp h1 (Or.imp h2 id)

theorem add_block (a : Addr) (k : Nat) : (a.add k).block = a.block := by unfold Addr.add; split <;> rfl

/-- Where the builder lies. -/
structure Ctx where
  bb : Nat
  pb : Nat
  a : Addr
  n : Nat
  cap : Nat
  E : Nat → Nd

/-- The builder in memory. -/
structure Bld (c : Ctx) (w : World) (P : Nat → Value) : Prop where
  b : w.heap[c.bb]? = some (.cells #[.slice (some c.a) c.n c.cap, .bool false, .bool false, .slice (some ⟨c.pb, 0, none⟩) c.n c.n] 141 (0, 0))
  p : ∃ C, w.heap[c.pb]? = some (.cells C 42 (0, 0)) ∧ ∀ i, i < c.n → C[i]? = some (P i)
  t : ∀ i, i < c.n → NdIn w (c.a.add (i * 5)) (c.E i)
  ap : c.a.block ≠ c.pb

theorem Bld.ne {c : Ctx} {w : World} {P : Nat → Value} (h : Bld c w P) : c.bb ≠ c.pb := by
  intro e
  obtain ⟨C, hp, -⟩ := h.p
  rw [← e, h.b] at hp
  simp at hp

theorem Bld.grown {c : Ctx} {w w' : World} {P : Nat → Value} {row : Option Nat} (h : Bld c w P) (hg : w.grownBy w' row) (h1 : some c.bb ≠ row) (h2 : some c.pb ≠ row) (h3 : some c.a.block ≠ row) : Bld c w' P := by
  obtain ⟨C, hp, hC⟩ := h.p
  exact ⟨block_grown h.b hg h1, ⟨C, block_grown hp hg h2, hC⟩, fun i hi => (h.t i hi).grown hg (by rw [add_block]; exact h3), h.ap⟩

theorem Bld.below {c : Ctx} {w w' : World} {P : Nat → Value} (h : Bld c w P) (hb : Below w.heap.size w w') : Bld c w' P := h.grown (grown_of_below hb) (by simp) (by simp) (by simp)

theorem Bld.place {c : Ctx} {w : World} {P : Nat → Value} (h : Bld c w P) {i : Nat} (hi : i < c.n) : w.cell? ⟨c.pb, i, none⟩ = some (P i) := by
  obtain ⟨C, hp, hC⟩ := h.p
  exact cell_of_block hp (hC i hi)
theorem Bld.free {c : Ctx} {w : World} {P : Nat → Value} (h : Bld c w P) (i : Nat) : w.frozen? ⟨c.pb, i, none⟩ = false := by
  obtain ⟨C, hp, hC⟩ := h.p
  exact free_of_block hp
theorem Bld.c0 {c : Ctx} {w : World} {P : Nat → Value} (h : Bld c w P) : w.cell? ⟨c.bb, 0, none⟩ = some (.slice (some c.a) c.n c.cap) := cell_of_block h.b rfl
theorem Bld.c1 {c : Ctx} {w : World} {P : Nat → Value} (h : Bld c w P) : w.cell? ⟨c.bb, 1, none⟩ = some (.bool false) := cell_of_block h.b rfl
theorem Bld.c2 {c : Ctx} {w : World} {P : Nat → Value} (h : Bld c w P) : w.cell? ⟨c.bb, 2, none⟩ = some (.bool false) := cell_of_block h.b rfl
theorem Bld.c3 {c : Ctx} {w : World} {P : Nat → Value} (h : Bld c w P) : w.cell? ⟨c.bb, 3, none⟩ = some (.slice (some ⟨c.pb, 0, none⟩) c.n c.n) := cell_of_block h.b rfl
theorem Bld.ltb {c : Ctx} {w : World} {P : Nat → Value} (h : Bld c w P) : c.bb < w.heap.size := lt_of_block h.b
theorem Bld.ltp {c : Ctx} {w : World} {P : Nat → Value} (h : Bld c w P) : c.pb < w.heap.size := by
  obtain ⟨C, hp, hC⟩ := h.p
  exact lt_of_block hp
theorem Bld.lta {c : Ctx} {w : World} {P : Nat → Value} (h : Bld c w P) {i : Nat} (hi : i < c.n) : c.a.block < w.heap.size := by
  have := World.block_lt_of_cell? _ _ (h.t i hi).1
  rwa [add_block] at this

/-- The types of nodes' interfaces. -/
def isN (t : TypeId) : Bool := [43, 63, 66, 67, 70, 74, 77, 78, 81, 82, 83, 84, 85, 89, 92, 93, 94, 95, 96, 97, 106, 116, 119, 122, 123, 126, 129, 133].contains t

/-- What the law looks at: the type of a node's interface, that of its struct, and which of its cells hold which kids. -/
def dirT (kind : Int) : Option (TypeId × TypeId × List (Nat × Nat)) :=
  if kind = 22 then some (129, 132, [(0, 0)])
  else if kind = 23 then some (70, 73, [(1, 0), (0, 1)])
  else if kind = 15 then some (85, 88, [(0, 0), (1, 1)])
  else if kind = 24 then some (78, 80, [(0, 0)])
  else if kind = 18 then some (43, 62, [(0, 0)])
  else none

/-- The same of those without direct kids. -/
def leafT (kind : Int) : Option TypeId :=
  if kind = 11 then some 66 else if kind = 1 then some 94 else if kind = 2 then some 93 else if kind = 3 then some 93
  else if kind = 4 then some 95 else if kind = 5 then some 96 else if kind = 6 then some 122 else if kind = 7 then some 77 else if kind = 8 then some 133 else none

def nodeS (t : TypeId) : Bool := [132, 73, 88, 80, 62].contains t

/-- The structs of nodes. -/
def nodeC (t : TypeId) : Bool := [62, 65, 185, 69, 73, 76, 175, 80, 211, 179, 180, 181, 88, 91, 190, 170, 168, 172, 204, 103, 113, 118, 121, 174, 125, 128, 132, 177].contains t

theorem nodeS_C {t : TypeId} (h : nodeS t = true) : nodeC t = true := by
  simp only [nodeS, List.contains_eq_mem, List.mem_cons, List.not_mem_nil, or_false, decide_eq_true_eq] at h
  rcases h with rfl | rfl | rfl | rfl | rfl <;> rfl

/-- A node's struct lies there. -/
def NodeAt (w : World) (x : Nat) : Prop := ∃ C S, w.heap[x]? = some (.cells C S (0, 0)) ∧ nodeC S = true

theorem NodeAt.lt {w : World} {x : Nat} (h : NodeAt w x) : x < w.heap.size := by
  obtain ⟨C, S, h, -⟩ := h
  exact lt_of_block h

theorem NodeAt.grown {w w' : World} {x : Nat} {row : Option Nat} (h : NodeAt w x) (hg : w.grownBy w' row) (hne : some x ≠ row) : NodeAt w' x := by
  obtain ⟨C, S, h, hS⟩ := h
  exact ⟨C, S, block_grown h hg hne, hS⟩

theorem NodeAt.below {w w' : World} {x : Nat} (h : NodeAt w x) (hb : Below w.heap.size w w') : NodeAt w' x := h.grown (grown_of_below hb) (by simp)

theorem dirT_node {kind : Int} {T S : TypeId} {F : List (Nat × Nat)} (h : dirT kind = some (T, S, F)) : nodeS S = true := by
  unfold dirT at h
  repeat' split at h
  all_goals first | (simp at h; obtain ⟨-, rfl, -⟩ := h; rfl) | simp at h

/-- A node has been made: its block holds its kids' interfaces, as the places have them. -/
def Dir (c : Ctx) (w : World) (P : Nat → Value) (k i : Nat) (T : TypeId) (x : Nat) : Prop :=
  (∀ T0 S0 F, dirT (c.E i).kind = some (T0, S0, F) → T = T0 ∧ ∃ C, w.heap[x]? = some (.cells C S0 (0, 0)) ∧ (∀ f j, (f, j) ∈ F → ∃ a, (kids c.E i)[j]? = some a ∧ i < a ∧ a < k ∧ C[f]? = some (P a)) ∧ ((c.E i).kind = 15 → C[4]? = some (.pointer none))) ∧
  ∀ T0, leafT (c.E i).kind = some T0 → T = T0

theorem Dir.mono {c : Ctx} {w w' : World} {P P' : Nat → Value} {k k' i : Nat} {T : TypeId} {x : Nat} (h : Dir c w P k i T x) (hk : k ≤ k') (hP : ∀ a, a < k → P' a = P a)
    (hw : ∀ C S, nodeS S = true → w.heap[x]? = some (.cells C S (0, 0)) → w'.heap[x]? = some (.cells C S (0, 0))) : Dir c w' P' k' i T x := by
  refine ⟨fun T0 S0 F hd => ?_, h.2⟩
  obtain ⟨h1, C, h2, h3, h4⟩ := h.1 T0 S0 F hd
  refine ⟨h1, C, hw C S0 (dirT_node hd) h2, fun f j hfj => ?_, h4⟩
  obtain ⟨a, h5, h8, h6, h7⟩ := h3 f j hfj
  exact ⟨a, h5, h8, by omega, by rw [hP a h6]; exact h7⟩

/-- A node's interface, over a block of its own. -/
def Built (c : Ctx) (L : Nat) (w : World) (P : Nat → Value) (k i : Nat) (v : Value) : Prop :=
  ∃ T x, v = .iface T (.pointer (some ⟨x, 0, none⟩)) ∧ isN T = true ∧ L ≤ x ∧ NodeAt w x ∧ Dir c w P k i T x

/-- What a call of the builder has done: the places from lo to k are built. -/
structure St (c : Ctx) (w : World) (P : Nat → Value) (lo k : Nat) (w' : World) (P' : Nat → Value) : Prop where
  grown : w.grownBy w' (some c.pb)
  bld : Bld c w' P'
  out : ∀ i, i < lo ∨ k ≤ i ∨ ¬ ex (c.E i) → P' i = P i
  fine : ∀ i, lo ≤ i → i < k → ex (c.E i) → Built c w.heap.size w' P' k i (P' i)
  inj : ∀ i j T T' x, lo ≤ i → i < k → ex (c.E i) → lo ≤ j → j < k → ex (c.E j) → P' i = .iface T (.pointer (some ⟨x, 0, none⟩)) → P' j = .iface T' (.pointer (some ⟨x, 0, none⟩)) → i = j

theorem St.refl {c : Ctx} {w : World} {P : Nat → Value} (h : Bld c w P) (lo : Nat) : St c w P lo lo w P :=
  ⟨World.grownBy.refl _ _, h, fun _ _ => rfl, fun i h1 h2 => by omega, fun i j _ _ _ h1 h2 => by omega⟩

/-- Blocks of no node that the call made are written. -/
theorem St.write {c : Ctx} {w w1 w2 : World} {P P' : Nat → Value} {lo k : Nat} (h : St c w P lo k w1 P') {g : Nat} (hg : w1.grownBy w2 (some g)) (hgw : w.heap.size ≤ g) (hlt : c.a.block < w.heap.size) (hb : Bld c w P)
    {C : Array Value} {t : TypeId} {fz : Nat × Nat} (ht : w1.heap[g]? = some (.cells C t fz)) (hn : nodeC t = false) : St c w P lo k w2 P' := by
  have n1 := hb.ltb
  have n2 := hb.ltp
  refine ⟨h.grown.andThen hg (fun j hj => .inl (by cases hj; exact hgw)), h.bld.grown hg (by simp; omega) (by simp; omega) (by simp; omega), h.out, fun i h1 h2 h3 => ?_, h.inj⟩
  obtain ⟨T, x, e1, e2, e3, e4, e5⟩ := h.fine i h1 h2 h3
  have hxg : some x ≠ some g := by
    intro e
    have e6 : x = g := Option.some.inj e
    subst e6
    obtain ⟨C', S', hx, hS⟩ := e4
    rw [ht] at hx
    have := Option.some.inj hx
    simp at this
    rw [this.2.1, hS] at hn
    cases hn
  exact ⟨T, x, e1, e2, e3, e4.grown hg hxg, e5.mono (Nat.le_refl _) (fun _ _ => rfl) (fun C' S hS hx => block_grown hx hg hxg)⟩

theorem St.below {c : Ctx} {w w1 w2 : World} {P P' : Nat → Value} {lo k : Nat} (h : St c w P lo k w1 P') (hb : Below w1.heap.size w1 w2) : St c w P lo k w2 P' := by
  have hg := grown_of_below hb
  refine ⟨h.grown.andThen hg (fun j hj => by cases hj), h.bld.below hb, h.out, fun i h1 h2 h3 => ?_, h.inj⟩
  obtain ⟨T, x, e1, e2, e3, e4, e5⟩ := h.fine i h1 h2 h3
  exact ⟨T, x, e1, e2, e3, e4.below hb, e5.mono (Nat.le_refl _) (fun _ _ => rfl) (fun C' S hS hx => block_grown hx hg (by simp))⟩

/-- One call behind the other. -/
theorem St.seq {c : Ctx} {w w1 w2 : World} {P P1 P2 : Nat → Value} {lo k k2 : Nat} (h : St c w P lo k w1 P1) (h2 : St c w1 P1 k k2 w2 P2) (hlo : lo ≤ k) (hk : k ≤ k2) (hb : Bld c w P) : St c w P lo k2 w2 P2 := by
  have n2 := hb.ltp
  have hP : ∀ i, i < k → P2 i = P1 i := fun i hi => h2.out i (.inl hi)
  refine ⟨h.grown.andThen h2.grown (fun j hj => .inr hj), h2.bld, fun i hi => ?_, fun i h3 h4 h5 => ?_, fun i j T T' x h3 h4 h5 h6 h7 h8 h9 h10 => ?_⟩
  · rw [h2.out i (or3 hi (fun h => by omega) (fun h => h)), h.out i (or3 hi (fun h => h) (fun h => by omega))]
  · by_cases hik : i < k
    · rw [hP i hik]
      obtain ⟨T, x, e1, e2, e3, e4, e5⟩ := h.fine i h3 hik h5
      exact ⟨T, x, e1, e2, e3, e4.grown h2.grown (by simp; omega), e5.mono hk hP (fun C S _ hx => block_grown hx h2.grown (by simp; omega))⟩
    · obtain ⟨T, x, e1, e2, e3, e4, e5⟩ := h2.fine i (by omega) h4 h5
      exact ⟨T, x, e1, e2, Nat.le_trans h.grown.size e3, e4, e5⟩
  · by_cases hik : i < k <;> by_cases hjk : j < k
    · rw [hP i hik] at h9
      rw [hP j hjk] at h10
      exact h.inj i j T T' x h3 hik h5 h6 hjk h8 h9 h10
    · exfalso
      rw [hP i hik] at h9
      obtain ⟨T1, x1, e1, e2, e3, e4, e5⟩ := h.fine i h3 hik h5
      obtain ⟨T2, x2, f1, f2, f3, f4, f5⟩ := h2.fine j (by omega) h7 h8
      rw [h9] at e1
      rw [h10] at f1
      simp at e1 f1
      have l1 := e4.lt
      have l2 := f4.lt
      omega
    · exfalso
      rw [hP j hjk] at h10
      obtain ⟨T1, x1, e1, e2, e3, e4, e5⟩ := h.fine j h6 hjk h8
      obtain ⟨T2, x2, f1, f2, f3, f4, f5⟩ := h2.fine i (by omega) h4 h5
      rw [h10] at e1
      rw [h9] at f1
      simp at e1 f1
      have l1 := e4.lt
      have l2 := f4.lt
      omega
    · exact h2.inj i j T T' x (by omega) h4 h5 (by omega) h7 h8 h9 h10

/-- A node that has not yet got its place. -/
def Got (c : Ctx) (w : World) (lo k at_ : Nat) (w' : World) (P' : Nat → Value) (v : Value) : Prop :=
  Built c w.heap.size w' P' k at_ v ∧ ∀ j T T' x, lo ≤ j → j < k → ex (c.E j) → P' j = .iface T (.pointer (some ⟨x, 0, none⟩)) → v ≠ .iface T' (.pointer (some ⟨x, 0, none⟩))

/-- Its place gets it. -/
theorem St.put {c : Ctx} {w w1 : World} {P P1 : Nat → Value} {i k : Nat} {v : Value} (h : St c w P (i + 1) k w1 P1) (hv : Got c w (i + 1) k i w1 P1 v) (hi : i < c.n) (hik : i < k) (hex : ex (c.E i)) (hb : Bld c w P) :
    St c w P i k (w1.setCell ⟨c.pb, i, none⟩ v) (fun j => if j = i then v else P1 j) := by
  obtain ⟨⟨T, x, e1, e2, e3, e4, e5⟩, hne⟩ := hv
  have n2 := hb.ltp
  obtain ⟨C, hp, hC⟩ := h.bld.p
  have hg : w1.grownBy (w1.setCell ⟨c.pb, i, none⟩ v) (some c.pb) := grown_set _ _ _
  have hs : (w1.setCell ⟨c.pb, i, none⟩ v).heap.size = w1.heap.size := by simp
  have hst : ∀ y C' S, c.pb < y → w1.heap[y]? = some (.cells C' S (0, 0)) → (w1.setCell ⟨c.pb, i, none⟩ v).heap[y]? = some (.cells C' S (0, 0)) := fun y C' S hy hx => block_grown hx hg (by simp; omega)
  refine ⟨h.grown.andThen hg (fun j hj => .inr hj), ⟨?_, ?_, ?_, h.bld.ap⟩, ?_, ?_, ?_⟩
  · exact block_grown h.bld.b hg (by have := h.bld.ne; simp; omega)
  · refine ⟨_, block_setCell hp, fun j hj => ?_⟩
    by_cases hji : j = i
    · subst hji
      have := (Array.getElem?_eq_some_iff.1 (hC j hj)).1
      rw [if_pos rfl, Array.getElem?_setIfInBounds_self_of_lt this]
    · rw [if_neg hji, Array.getElem?_setIfInBounds_ne (by omega)]
      exact hC j hj
  · exact fun j hj => (h.bld.t j hj).grown hg (by rw [add_block]; have := h.bld.ap; simp; omega)
  · intro j hj
    have hji : j ≠ i := by rintro rfl; rcases hj with h1 | h1 | h1 <;> first | omega | exact h1 hex
    rw [if_neg hji]
    exact h.out j (or3 hj (fun h => by omega) (fun h => h))
  · intro j h1 h2 h3
    by_cases hji : j = i
    · subst hji
      rw [if_pos rfl]
      refine ⟨T, x, e1, e2, e3, e4.grown hg (by simp; omega), ?_⟩
      refine ⟨fun T0 S0 F hd => ?_, e5.2⟩
      obtain ⟨g1, C', g2, g3, g4⟩ := e5.1 T0 S0 F hd
      refine ⟨g1, C', hst _ _ _ (by omega) g2, fun f q hfq => ?_, g4⟩
      obtain ⟨a, g5, g8, g6, g7⟩ := g3 f q hfq
      exact ⟨a, g5, g8, g6, by show _ = some (if a = _ then v else P1 a); rw [if_neg (by omega)]; exact g7⟩
    · rw [if_neg hji]
      obtain ⟨T1, x1, f1, f2, f3, f4, f5⟩ := h.fine j (by omega) h2 h3
      refine ⟨T1, x1, f1, f2, f3, f4.grown hg (by simp; omega), ?_⟩
      refine ⟨fun T0 S0 F hd => ?_, f5.2⟩
      obtain ⟨g1, C', g2, g3, g4⟩ := f5.1 T0 S0 F hd
      refine ⟨g1, C', hst _ _ _ (by omega) g2, fun f q hfq => ?_, g4⟩
      obtain ⟨a, g5, g8, g6, g7⟩ := g3 f q hfq
      exact ⟨a, g5, g8, g6, by show _ = some (if a = _ then v else P1 a); rw [if_neg (by omega)]; exact g7⟩
  · intro j j' T1 T2 y h1 h2 h3 h4 h5 h6 h7 h8
    by_cases hji : j = i <;> by_cases hji' : j' = i
    · omega
    · rw [if_pos hji] at h7
      rw [if_neg hji'] at h8
      exact absurd h7 (hne j' _ _ _ (by omega) h5 h6 h8)
    · rw [if_neg hji] at h7
      rw [if_pos hji'] at h8
      exact absurd h8 (hne j _ _ _ (by omega) h2 h3 h7)
    · rw [if_neg hji] at h7
      rw [if_neg hji'] at h8
      exact h.inj j j' T1 T2 y (by omega) h2 h3 (by omega) h5 h6 h7 h8
end Go.Proofs.Ytkpfbgeaodopoaa.fnDirect
