/-
  FnDirect: steps within the builder's functions.
-/
import Derived.Test.YtkpfbgeaodopoaaDirMade
namespace Go.Proofs.Ytkpfbgeaodopoaa.fnDirect
open Go.RowKit
set_option linter.unusedSimpArgs false
set_option linter.unusedVariables false

/-- A place that is no expression needs nothing. -/
theorem St.skip {c : Ctx} {w w' : World} {P P' : Nat → Value} {lo k : Nat} (h : St c w P (lo + 1) k w' P') (hx : ¬ ex (c.E lo)) : St c w P lo k w' P' := by
  refine ⟨h.grown, h.bld, fun i hi => ?_, fun i h1 h2 h3 => ?_, fun i j T T' x h1 h2 h3 h4 h5 h6 h7 h8 => ?_⟩
  · exact h.out i (or3 hi (fun h => by omega) (fun h => h))
  · have : i ≠ lo := by rintro rfl; exact hx h3
    exact h.fine i (by omega) h2 h3
  · have : i ≠ lo := by rintro rfl; exact hx h3
    have : j ≠ lo := by rintro rfl; exact hx h6
    exact h.inj i j T T' x (by omega) h2 h3 (by omega) h5 h6 h7 h8

/-- The places up to k2 are no expressions. -/
theorem St.one {c : Ctx} {w w' : World} {P P' : Nat → Value} {lo k : Nat} (h : St c w P lo k w' P') (hx : ¬ ex (c.E k)) (hlo : lo ≤ k) : St c w P lo (k + 1) w' P' := by
  refine ⟨h.grown, h.bld, fun i hi => ?_, fun i h1 h2 h3 => ?_, fun i j T T' x h1 h2 h3 h4 h5 h6 h7 h8 => ?_⟩
  · exact h.out i (or3 hi (fun h => h) (fun h => by omega))
  · have : i ≠ k := by rintro rfl; exact hx h3
    obtain ⟨T, x, e1, e2, e3, e4, e5⟩ := h.fine i h1 (by omega) h3
    exact ⟨T, x, e1, e2, e3, e4, e5.mono (by omega) (fun _ _ => rfl) (fun _ _ _ h => h)⟩
  · have : i ≠ k := by rintro rfl; exact hx h3
    have : j ≠ k := by rintro rfl; exact hx h6
    exact h.inj i j T T' x h1 (by omega) h3 h4 (by omega) h6 h7 h8

/-- No place from lo to k holds this block. -/
def Apart (c : Ctx) (x lo k : Nat) (P : Nat → Value) : Prop := ∀ j T, lo ≤ j → j < k → ex (c.E j) → P j ≠ .iface T (.pointer (some ⟨x, 0, none⟩))

theorem Apart.nil (c : Ctx) (x lo : Nat) (P : Nat → Value) : Apart c x lo lo P := fun j T h1 h2 => by omega

theorem Apart.step {c : Ctx} {x lo k k2 : Nat} {w w' : World} {P P' : Nat → Value} (h : Apart c x lo k P) (hs : St c w P k k2 w' P') (hx : x < w.heap.size) : Apart c x lo k2 P' := by
  intro j T h1 h2 h3 h4
  by_cases hjk : j < k
  · rw [hs.out j (.inl hjk)] at h4
    exact h j T h1 hjk h3 h4
  · obtain ⟨T1, x1, e1, e2, e3, e4, e5⟩ := hs.fine j (by omega) h2 h3
    rw [h4] at e1
    have e6 := (Value.iface.inj e1).2
    simp at e6
    all_goals omega

theorem Apart.one {c : Ctx} {x lo k : Nat} {P : Nat → Value} (h : Apart c x lo k P) (hx : ¬ ex (c.E k)) : Apart c x lo (k + 1) P := by
  intro j T h1 h2 h3
  have : j ≠ k := by rintro rfl; exact hx h3
  exact h j T h1 (by omega) h3

/-- A block that is made behind all of them. -/
theorem St.apart {c : Ctx} {x lo k : Nat} {w w' : World} {P P' : Nat → Value} (hs : St c w P lo k w' P') (hx : w'.heap.size ≤ x) : Apart c x lo k P' := by
  intro j T h1 h2 h3 h4
  obtain ⟨T1, x1, e1, e2, e3, e4, e5⟩ := hs.fine j h1 h2 h3
  have l1 := e4.lt
  rw [h4] at e1
  have e6 := (Value.iface.inj e1).2
  simp at e6
  all_goals omega

/-- node is called in the midst. -/
theorem St.node {c : Ctx} {N : Nat} {w wr : World} {P P1 : Nat → Value} {lo k : Nat} (hs : St c w P lo k wr P1) (ih : NodeTo c N) (hb : Bld c w P) (hlo : lo ≤ k) (hk : k < c.n) (hex : ex (c.E k)) (hsz : sz c.E k ≤ N) (h1 : 1 ≤ sz c.E k) :
    Calls Try.prog 31 #[.pointer (some ⟨c.bb, 0, none⟩), .int .i64 k] wr fun e w' => ∃ P2 T x, e = .returned (.iface T (.pointer (some ⟨x, 0, none⟩))) ∧ isN T = true ∧ wr.heap.size ≤ x ∧ P2 k = .iface T (.pointer (some ⟨x, 0, none⟩)) ∧ St c w P lo (k + sz c.E k) w' P2 ∧ St c wr P1 k (k + sz c.E k) w' P2 := by
  refine (ih k wr P1 hk hex hsz hs.bld).mono ?_
  rintro e w' ⟨P2, rfl, h2⟩
  obtain ⟨T, x, e1, e2, e3, e4, e5⟩ := h2.fine k (Nat.le_refl _) (by omega) hex
  exact ⟨P2, T, x, by rw [e1], e2, e3, e1, hs.seq h2 hlo (by omega) hb, h2⟩

/-- A row that the call owns stands behind a call of the builder. -/
theorem St.row {c : Ctx} {w w' : World} {P P' : Nat → Value} {lo k : Nat} (hs : St c w P lo k w' P') {B : Nat} {e : TypeId} {size n : Nat} {v : Value} {xs : List Value} (h : w.ownsRow B e size v n xs) (hB : c.pb < B) : w'.ownsRow B e size v n xs := by
  refine h.kept hs.grown ?_
  rcases h.2 with ⟨rfl, -⟩ | ⟨g, cap, cur, rfl, hg, -⟩
  · exact .inl rfl
  · refine .inr (fun h => ?_)
    simp [Value.ownBlock] at h
    omega

/-- An append to such a row. -/
theorem St.append {c : Ctx} {w w1 w2 : World} {P P' : Nat → Value} {lo k : Nat} (h : St c w P lo k w1 P') (hb : Bld c w P) (ha : c.a.block < w.heap.size) {e : TypeId} {size n : Nat} {v : Value} {xs : List Value} (hr : w1.ownsRow w.heap.size e size v n xs) (hg : w1.grownBy w2 v.ownBlock) (hn : nodeC e = false) : St c w P lo k w2 P' := by
  rcases hr.2 with ⟨rfl, -⟩ | ⟨g, cap, cur, rfl, hg', hbl, -⟩
  · exact h.below ⟨hg.os, hg.tape, hg.output, hg.size, fun k hk => hg.block k hk (by simp [Value.ownBlock])⟩
  · exact h.write (g := g) hg hg' ha hb hbl hn

/-- A cell of a struct that the call made is written. -/
theorem St.set {c : Ctx} {w w1 : World} {P P' : Nat → Value} {lo k : Nat} (h : St c w P lo k w1 P') (hb : Bld c w P) (ha : c.a.block < w.heap.size) {x i : Nat} (hx : w.heap.size ≤ x) {C : Array Value} {t : TypeId} (ht : w1.heap[x]? = some (.cells C t (0, 0))) (hn : nodeS t = false) (u : Value) : St c w P lo k (w1.setCell ⟨x, i, none⟩ u) P' := by
  have n1 := hb.ltb
  have n2 := hb.ltp
  have hg : w1.grownBy (w1.setCell ⟨x, i, none⟩ u) (some x) := grown_set w1 ⟨x, i, none⟩ u
  refine ⟨h.grown.andThen hg (fun j hj => .inl (by cases hj; exact hx)), h.bld.grown hg (by simp; omega) (by simp; omega) (by simp; omega), h.out, fun j h1 h2 h3 => ?_, h.inj⟩
  obtain ⟨T, y, e1, e2, e3, e4, e5⟩ := h.fine j h1 h2 h3
  refine ⟨T, y, e1, e2, e3, ?_, e5.mono (Nat.le_refl _) (fun _ _ => rfl) (fun C' S hS hy => block_grown hy hg (fun e => ?_))⟩
  · by_cases hyx : y = x
    · subst hyx
      obtain ⟨C', S', h4, h5⟩ := e4
      exact ⟨_, _, block_setCell h4, h5⟩
    · exact e4.grown hg (by simp; omega)
  · have e6 : y = x := Option.some.inj e
    subst e6
    rw [ht] at hy
    have := Option.some.inj hy
    simp at this
    rw [this.2, hS] at hn
    cases hn

/-- A block of the call's own stands behind a call of the builder. -/
theorem St.block {c : Ctx} {w w' : World} {P P' : Nat → Value} {lo k : Nat} (hs : St c w P lo k w' P') {b : Nat} {o : Obj} (h : w.heap[b]? = some o) (hb : b ≠ c.pb) : w'.heap[b]? = some o :=
  block_grown h hs.grown (by simp; exact hb)

theorem St.cell {c : Ctx} {w w' : World} {P P' : Nat → Value} {lo k : Nat} (hs : St c w P lo k w' P') {a : Addr} {v : Value} (h : w.cell? a = some v) (hb : a.block ≠ c.pb) : w'.cell? a = some v :=
  hs.grown.cell h (by simp; exact hb)

theorem IntsIn.st {c : Ctx} {w w' : World} {P P' : Nat → Value} {lo k : Nat} {v : Value} {l : List Nat} (h : IntsIn c w v l) (hs : St c w P lo k w' P') : IntsIn c w' v l := h.grown hs.grown

/-- The numbers of a row, one by one. -/
theorem IntsIn.get {c : Ctx} {w : World} {ao : Option Addr} {n cap : Nat} {l : List Nat} (h : IntsIn c w (.slice ao n cap) l) {i k : Nat} (hi : l[i]? = some k) : ∃ g o, ao = some ⟨g, o, none⟩ ∧ g ≠ c.pb ∧ w.cell? ⟨g, o + i, none⟩ = some (.int .i64 k) := by
  obtain ⟨ao', cap', h1, h2, h3, h4⟩ := h
  cases h1
  rcases h4 with rfl | ⟨g, o, h5, h6, h7⟩
  · simp at hi
  · exact ⟨g, o, h5, h6, h7 i k hi⟩

theorem IntsIn.cap {c : Ctx} {w : World} {ao : Option Addr} {n cap : Nat} {l : List Nat} (h : IntsIn c w (.slice ao n cap) l) : l.length ≤ cap ∧ cap ≤ maxLen := by
  obtain ⟨ao', cap', h1, h2, h3, h4⟩ := h
  cases h1
  exact ⟨h2, h3⟩

/-- Its beginning. -/
theorem IntsIn.left {c : Ctx} {w : World} {ao : Option Addr} {n cap : Nat} {l l' : List Nat} (h : IntsIn c w (.slice ao n cap) (l ++ l')) : IntsIn c w (.slice ao l.length cap) l := by
  obtain ⟨ao', cap', h1, h2, h3, h4⟩ := h
  cases h1
  refine ⟨_, _, rfl, by simp at h2; omega, h3, ?_⟩
  rcases h4 with h4 | ⟨g, o, h5, h6, h7⟩
  · exact .inl (List.append_eq_nil_iff.1 h4).1
  · exact .inr ⟨g, o, h5, h6, fun i k hi => h7 i k (by rw [List.getElem?_append_left (List.getElem?_eq_some_iff.1 hi).1]; exact hi)⟩

/-- A block of another type stands where a row is appended to. -/
theorem keep_block {W X w2 : World} {b : Nat} {C : Array Value} {t : TypeId} {B : Nat} {e : TypeId} {size n : Nat} {v : Value} {xs : List Value} (hC : W.heap[b]? = some (.cells C t (0, 0))) (hX : Below W.heap.size W X) (hr : W.ownsRow B e size v n xs) (hg : X.grownBy w2 v.ownBlock) (hne : e ≠ t) : w2.heap[b]? = some (.cells C t (0, 0)) :=
  block_grown ((hX.block _ (lt_of_block hC)).trans hC) hg (own_block_ne hr hC hne)

theorem cells11 {w : World} {n : Nat} {a b c d e f g h i j k : Value} {t : TypeId} (hh : w.heap[n]? = some (.cells #[a, b, c, d, e, f, g, h, i, j, k] t (0, 0))) :
    w.cell? ⟨n, 0, none⟩ = some a ∧ w.cell? ⟨n, 1, none⟩ = some b ∧ w.cell? ⟨n, 2, none⟩ = some c ∧ w.cell? ⟨n, 3, none⟩ = some d ∧ w.cell? ⟨n, 4, none⟩ = some e ∧ w.cell? ⟨n, 5, none⟩ = some f ∧ w.cell? ⟨n, 6, none⟩ = some g ∧ w.cell? ⟨n, 7, none⟩ = some h ∧ w.cell? ⟨n, 8, none⟩ = some i ∧ w.cell? ⟨n, 9, none⟩ = some j ∧ w.cell? ⟨n, 10, none⟩ = some k :=
  ⟨cell_of_block hh (i := 0) rfl, cell_of_block hh (i := 1) rfl, cell_of_block hh (i := 2) rfl, cell_of_block hh (i := 3) rfl, cell_of_block hh (i := 4) rfl, cell_of_block hh (i := 5) rfl, cell_of_block hh (i := 6) rfl, cell_of_block hh (i := 7) rfl, cell_of_block hh (i := 8) rfl, cell_of_block hh (i := 9) rfl, cell_of_block hh (i := 10) rfl⟩

/-- A node that gets a new block behind all. -/
theorem Got.mk {c : Ctx} {w w1 w2 : World} {P P1 : Nat → Value} {lo k i x : Nat} {T : TypeId} (hs : St c w P lo k w1 P1) (hT : isN T = true) (hx : w.heap.size ≤ x) (hx2 : NodeAt w2 x) (ha : Apart c x lo k P1) (hd : Dir c w2 P1 k i T x) : Got c w lo k i w2 P1 (.iface T (.pointer (some ⟨x, 0, none⟩))) :=
  ⟨⟨T, x, rfl, hT, hx, hx2, hd⟩, fun j T1 T2 y h1 h2 h3 h4 h5 => by
    simp at h5
    obtain ⟨-, rfl⟩ := h5
    exact ha j T1 h1 h2 h3 h4⟩

/-- Of other kinds the law asks nothing. -/
theorem Dir.other {c : Ctx} {w : World} {P : Nat → Value} {k i : Nat} {T : TypeId} {x : Nat} (h1 : dirT (c.E i).kind = none) (h2 : leafT (c.E i).kind = none) : Dir c w P k i T x :=
  ⟨fun T0 S0 F hd => (by rw [h1] at hd; cases hd), fun T0 hd => (by rw [h2] at hd; cases hd)⟩
end Go.Proofs.Ytkpfbgeaodopoaa.fnDirect
