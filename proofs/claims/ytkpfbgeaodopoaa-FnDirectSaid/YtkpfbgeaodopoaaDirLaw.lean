/-
  FnDirect: trees as lists of nodes, in plain terms.
-/
import Derived.Test.YtkpfbgeaodopoaaOwn
namespace Go.Proofs.Ytkpfbgeaodopoaa.fnDirect
open Go.RowKit
set_option linter.unusedSimpArgs false
set_option linter.unusedVariables false

structure Nd where
  kind : Int
  op : Int
  text : ByteArray
  flag : Int
  size : Int

/-- The places of nodes that stand one behind the other, from k to e. -/
inductive Kin (s : Nat → Nat) : Nat → Nat → List Nat → Prop
  | nil (e : Nat) : Kin s e e []
  | cons (k e : Nat) (l : List Nat) : 1 ≤ s k → k + s k ≤ e → Kin s (k + s k) e l → Kin s k e (k :: l)

theorem Kin.le {s : Nat → Nat} {k e : Nat} {l : List Nat} (h : Kin s k e l) : k ≤ e := by
  induction h with
  | nil => exact Nat.le_refl _
  | cons k e l h1 h2 _ ih => omega

theorem Kin.append {s : Nat → Nat} {k m e : Nat} {l l' : List Nat} (h : Kin s k m l) (h' : Kin s m e l') : Kin s k e (l ++ l') := by
  induction h with
  | nil => exact h'
  | cons k e0 l h1 h2 _ ih => exact .cons _ _ _ h1 (Nat.le_trans h2 h'.le) (ih h')

theorem Kin.snoc {s : Nat → Nat} {a k : Nat} {l : List Nat} (h : Kin s a k l) (hs : 1 ≤ s k) : Kin s a (k + s k) (l ++ [k]) :=
  h.append (.cons _ _ _ hs (Nat.le_refl _) (.nil _))

theorem Kin.split {s : Nat → Nat} {e : Nat} {l' : List Nat} : ∀ {l : List Nat} {k : Nat}, Kin s k e (l ++ l') → ∃ m, Kin s k m l ∧ Kin s m e l'
  | [], k, h => ⟨k, .nil _, h⟩
  | _ :: l, _, .cons k _ _ h1 h2 h3 => by
    obtain ⟨m, h4, h5⟩ := Kin.split h3
    exact ⟨m, .cons _ _ _ h1 h4.le h4, h5⟩

theorem Kin.cons_inv {s : Nat → Nat} {k e x : Nat} {l : List Nat} (h : Kin s k e (x :: l)) : x = k ∧ 1 ≤ s k ∧ k + s k ≤ e ∧ Kin s (k + s k) e l := by
  cases h with
  | cons _ _ _ h1 h2 h3 => exact ⟨rfl, h1, h2, h3⟩

theorem Kin.nil_inv {s : Nat → Nat} {k e : Nat} (h : Kin s k e []) : k = e := by cases h; rfl

theorem Kin.mem {s : Nat → Nat} {a e k : Nat} {l : List Nat} (h : Kin s a e l) (hk : k ∈ l) : a ≤ k ∧ 1 ≤ s k ∧ k + s k ≤ e := by
  induction h with
  | nil => simp at hk
  | cons k0 e l h1 h2 _ ih =>
    simp at hk
    rcases hk with rfl | hk
    · exact ⟨Nat.le_refl _, h1, h2⟩
    · have := ih hk
      exact ⟨by omega, this.2.1, this.2.2⟩

theorem Kin.len {s : Nat → Nat} {a e : Nat} {l : List Nat} (h : Kin s a e l) : a + l.length ≤ e := by
  induction h with
  | nil => simp
  | cons k0 e l h1 h2 _ ih => simp; omega

theorem Kin.nodup {s : Nat → Nat} {a e : Nat} {l : List Nat} (h : Kin s a e l) : l.Nodup := by
  induction h with
  | nil => simp
  | cons k0 e l h1 h2 h3 ih =>
    simp only [List.nodup_cons]
    exact ⟨fun hm => by have := h3.mem hm; omega, ih⟩

theorem Kin.head {s : Nat → Nat} {a e : Nat} {l : List Nat} (h : Kin s a e l) (hlt : a < e) : ∃ l', l = a :: l' := by
  cases h with
  | nil => omega
  | cons _ _ l _ _ _ => exact ⟨l, rfl⟩

theorem Kin.unique {s : Nat → Nat} {a e : Nat} {l : List Nat} (h : Kin s a e l) : ∀ {l' : List Nat}, Kin s a e l' → l = l' := by
  induction h with
  | nil => intro l' h'; cases h' with
    | nil => rfl
    | cons _ _ _ h1 h2 _ => omega
  | cons k e l h1 h2 _ ih => intro l' h'; cases h' with
    | nil => omega
    | cons _ _ l2 _ _ h3 => rw [ih h3]

/-- The place at the end of the first i ones. -/
theorem Kin.at {s : Nat → Nat} {a e i k : Nat} {l : List Nat} (h : Kin s a e l) (hi : l[i]? = some k) : Kin s a k (l.take i) ∧ 1 ≤ s k ∧ Kin s (k + s k) e (l.drop (i + 1)) ∧ k + s k ≤ e := by
  have hlt : i < l.length := (List.getElem?_eq_some_iff.1 hi).1
  have he : l[i] = k := (List.getElem?_eq_some_iff.1 hi).2
  have hl : l = l.take i ++ k :: l.drop (i + 1) := by rw [← he, List.getElem_cons_drop, List.take_append_drop]
  rw [hl] at h
  obtain ⟨m, h1, h2⟩ := h.split
  obtain ⟨rfl, h3, h4, h5⟩ := h2.cons_inv
  exact ⟨h1, h3, h5, h4⟩

/-- How many nodes a node is. -/
def sz (E : Nat → Nd) (i : Nat) : Nat := (E i).size.toNat

/-- The sizes fit at a node. -/
def FitAt (E : Nat → Nd) (n i : Nat) : Prop := 1 ≤ (E i).size ∧ i + sz E i ≤ n ∧ ∃ l, Kin (sz E) (i + 1) (i + sz E i) l

open Classical in
/-- The kids of a node. -/
noncomputable def kids (E : Nat → Nd) (i : Nat) : List Nat := if h : ∃ l, Kin (sz E) (i + 1) (i + sz E i) l then h.choose else []

theorem FitAt.kin {E : Nat → Nd} {n i : Nat} (h : FitAt E n i) : Kin (sz E) (i + 1) (i + sz E i) (kids E i) := by
  unfold kids
  rw [dif_pos h.2.2]
  exact h.2.2.choose_spec

theorem FitAt.pos {E : Nat → Nd} {n i : Nat} (h : FitAt E n i) : 1 ≤ sz E i := by have := h.1; unfold sz; omega
theorem FitAt.size {E : Nat → Nd} {n i : Nat} (h : FitAt E n i) : (E i).size = (sz E i : Int) := by have := h.1; unfold sz; omega
theorem FitAt.mono {E : Nat → Nd} {n m i : Nat} (h : FitAt E n i) (hm : n ≤ m) : FitAt E m i := ⟨h.1, by have := h.2.1; omega, h.2.2⟩

/-- The sizes fit everywhere. -/
def Fit (E : Nat → Nd) (n : Nat) : Prop := 0 < n ∧ (E 0).size = n ∧ ∀ i, i < n → FitAt E n i

/-- A node of an expression. -/
def ex (x : Nd) : Prop := 1 ≤ x.kind ∧ x.kind ≤ 30

instance (x : Nd) : Decidable (ex x) := by unfold ex; infer_instance

/-- All but the last one are of a kind, and the last one is an expression. -/
def Row (E : Nat → Nd) (q : Int) (l : List Nat) : Prop := ∃ l' k, l = l' ++ [k] ∧ (∀ j ∈ l', (E j).kind = q) ∧ ex (E k)

/-- Specifications. -/
def Specs (E : Nat → Nd) (l : List Nat) : Prop := ∃ k l', l = k :: l' ∧ (E k).kind = 38 ∧ ∀ j ∈ l', (E j).kind = 38 ∨ (E j).kind = 39

/-- What a node's kids are, by its kind. -/
inductive Shape (E : Nat → Nd) (x : Nd) (l : List Nat) : Prop
  | leaf : x.kind ∈ [1, 2, 3, 4, 5, 6, 7, 8, 26, 27, 28, 31] → l = [] → Shape E x l
  | super0 : x.kind = 9 → x.flag = 1 → l = [] → Shape E x l
  | super1 (a : Nat) : x.kind = 9 → x.flag = 0 → l = [a] → ex (E a) → Shape E x l
  | one (a : Nat) : x.kind ∈ [10, 16, 22, 24, 30, 34, 38, 39] → (x.kind = 22 → 1 ≤ x.op ∧ x.op ≤ 4) → l = [a] → ex (E a) → Shape E x l
  | array : x.kind = 11 → (∀ k ∈ l, ex (E k)) → Shape E x l
  | two (a b : Nat) : x.kind ∈ [15, 23] → (x.kind = 23 → 1 ≤ x.op ∧ x.op ≤ 19) → l = [a, b] → ex (E a) → ex (E b) → Shape E x l
  | if2 (a b : Nat) : x.kind = 21 → l = [a, b] → ex (E a) → ex (E b) → Shape E x l
  | if3 (a b c : Nat) : x.kind = 21 → l = [a, b, c] → ex (E a) → ex (E b) → ex (E c) → Shape E x l
  | assert2 (a b : Nat) : x.kind = 25 → x.flag = 0 → l = [a, b] → ex (E a) → ex (E b) → Shape E x l
  | assert3 (a b c : Nat) : x.kind = 25 → x.flag = 1 → l = [a, b, c] → ex (E a) → ex (E b) → ex (E c) → Shape E x l
  | massert1 (a : Nat) : x.kind = 37 → x.flag = 0 → l = [a] → ex (E a) → Shape E x l
  | massert2 (a b : Nat) : x.kind = 37 → x.flag = 1 → l = [a, b] → ex (E a) → ex (E b) → Shape E x l
  | mlocal (a : Nat) : x.kind = 36 → l = [a] → (E a).kind = 32 → Shape E x l
  | param0 : x.kind = 33 → l = [] → Shape E x l
  | param1 (a : Nat) : x.kind = 33 → l = [a] → ex (E a) → Shape E x l
  | slice (a b c d : Nat) : x.kind = 17 → l = [a, b, c, d] → ex (E a) → (∀ k ∈ [b, c, d], ex (E k) ∨ (E k).kind = 31) → Shape E x l
  | brace (a b : Nat) : x.kind = 29 → l = [a, b] → ex (E a) → (E b).kind = 13 → Shape E x l
  | comp (a : Nat) (l' : List Nat) : x.kind = 12 → l = a :: l' → ex (E a) → Specs E l' → Shape E x l
  | object : x.kind = 13 → (∀ k ∈ l, (E k).kind = 35 ∨ (E k).kind = 36 ∨ (E k).kind = 37) → Shape E x l
  | ocomp (l' l'' : List Nat) (f : Nat) (l1 l2 : List Nat) : x.kind = 14 → l = l' ++ l'' → l' = l1 ++ f :: l2 → (E f).kind = 35 → (E f).flag = 2 → (E f).op = 0 → (∀ k ∈ l1, (E k).kind = 36) → (∀ k ∈ l2, (E k).kind = 36) → Specs E l'' → Shape E x l
  | func : x.kind = 19 → Row E 33 l → Shape E x l
  | bind1 (a : Nat) : x.kind = 32 → x.flag = 0 → l = [a] → ex (E a) → Shape E x l
  | bind2 : x.kind = 32 → x.flag = 1 → Row E 33 l → Shape E x l
  | local_ (l' : List Nat) : x.kind = 20 → Row E 32 l → 2 ≤ l.length → Shape E x l
  | apply (a : Nat) (l' : List Nat) : x.kind = 18 → l = a :: l' → ex (E a) → (∀ k ∈ l', (E k).kind = 34) → (∀ i, 0 < i → i < l'.length → ∀ j k, l'[i - 1]? = some j → l'[i]? = some k → (E j).text.size ≠ 0 → (E k).text.size ≠ 0) → Shape E x l
  | fieldm (l' : List Nat) : x.kind = 35 → x.flag ∈ [8, 9] → x.op ∈ [0, 1, 2] → Row E 33 l → Shape E x l
  | fieldp (a : Nat) : x.kind = 35 → x.flag ∈ [0, 1, 4, 5] → x.op ∈ [0, 1, 2] → l = [a] → ex (E a) → Shape E x l
  | fieldem (a : Nat) (l' : List Nat) : x.kind = 35 → x.flag = 10 → x.op ∈ [0, 1, 2] → l = a :: l' → ex (E a) → Row E 33 l' → Shape E x l
  | fieldep (a b : Nat) : x.kind = 35 → x.flag ∈ [2, 6] → x.op ∈ [0, 1, 2] → l = [a, b] → ex (E a) → ex (E b) → Shape E x l

/-- A tree. -/
def Tree (E : Nat → Nd) (n : Nat) : Prop := Fit E n ∧ ex (E 0) ∧ ∀ i, i < n → Shape E (E i) (kids E i)
end Go.Proofs.Ytkpfbgeaodopoaa.fnDirect
