/-
  FnLinesStripped: the plain law: white space stripped of code points is white space stripped of bytes.
-/
import Derived.Test.YthdlekfnmabldaaDoorEncText
namespace Go.Proofs.YthdlekfnmabldaaDoor.fnLinesStripped
open Go Go.Proofs.YthdlekfnmabldaaDoor.fnEncodeExact
set_option linter.unusedSimpArgs false
set_option linter.unusedVariables false
set_option maxRecDepth 100000

/-- Is a number a blank, a tab or a carriage return? -/
def ws (n : Nat) : Bool := n == 32 || n == 9 || n == 13

/-- How many of a list begin it that are white space, up to so many. -/
def lead {α : Type} (p : α → Bool) : Nat → List α → Nat
  | 0, _ => 0
  | _, [] => 0
  | m + 1, x :: l => if p x then lead p m l + 1 else 0

/-- A list without what is white space at its end. -/
def chop {α : Type} (p : α → Bool) (l : List α) : List α := (l.reverse.dropWhile p).reverse

/-- As the package does: from the front first, then from the end. -/
def front {α : Type} (p : α → Bool) (m : Nat) (l : List α) : List α := chop p (l.drop (lead p m l))

/-- As the specification does: from the end first. -/
def back {α : Type} (p : α → Bool) (m : Nat) (l : List α) : List α := (chop p l).drop (lead p m (chop p l))

theorem chop_nil {α : Type} (p : α → Bool) : chop p ([] : List α) = [] := rfl

theorem chop_cons {α : Type} (p : α → Bool) (x : α) (l : List α) : chop p (x :: l) = if chop p l = [] ∧ p x = true then [] else x :: chop p l := by
  unfold chop
  rw [List.reverse_cons, List.dropWhile_append]
  by_cases h : (l.reverse.dropWhile p) = []
  · rw [h]
    by_cases hx : p x = true
    · simp [hx]
    · simp [hx]
  · have h2 : (l.reverse.dropWhile p).isEmpty = false := by simpa using h
    rw [h2]
    simp [h]

/-- The two orders come to the same. -/
theorem front_back {α : Type} (p : α → Bool) : ∀ (m : Nat) (l : List α), front p m l = back p m l
  | 0, l => by cases l <;> simp [front, back, lead]
  | m + 1, [] => by simp [front, back, lead, chop]
  | m + 1, x :: l => by
    have ih := front_back p m l
    unfold front back at ih ⊢
    by_cases hx : p x = true
    · have e1 : lead p (m + 1) (x :: l) = lead p m l + 1 := by simp [lead, hx]
      rw [e1, List.drop_succ_cons, ih, chop_cons]
      by_cases hc : chop p l = []
      · rw [if_pos ⟨hc, hx⟩, hc]
        simp [lead]
      · rw [if_neg (fun h => hc h.1)]
        have e2 : lead p (m + 1) (x :: chop p l) = lead p m (chop p l) + 1 := by simp [lead, hx]
        rw [e2, List.drop_succ_cons]
    · have e1 : lead p (m + 1) (x :: l) = 0 := by simp [lead, hx]
      rw [e1, List.drop_zero, chop_cons, if_neg (fun h => hx h.2)]
      simp [lead, hx]

/-- The bytes of code points. -/
def enc (r : Nat) : List UInt8 := (Utf8.encode (r : Int)).data.toList

/-- A code point whose bytes are as they should be: one byte below 128 that is itself, or no byte below 128. -/
def Fine (r : Nat) : Prop := (r < 128 ∧ enc r = [UInt8.ofNat r]) ∨ (128 ≤ r ∧ enc r ≠ [] ∧ ∀ b ∈ enc r, 128 ≤ b.toNat)

theorem fine_ws {r : Nat} (h : Fine r) : (ws r = true ∧ ∃ b, enc r = [b] ∧ ws b.toNat = true) ∨ (ws r = false ∧ enc r ≠ [] ∧ ∀ b ∈ enc r, ws b.toNat = false) := by
  rcases h with ⟨h1, h2⟩ | ⟨h1, h2, h3⟩
  · cases hw : ws r
    · refine .inr ⟨rfl, by rw [h2]; simp, fun b hb => ?_⟩
      rw [h2] at hb
      simp at hb
      subst hb
      have : (UInt8.ofNat r).toNat = r := by simp; omega
      rw [this]
      exact hw
    · refine .inl ⟨rfl, _, h2, ?_⟩
      have : (UInt8.ofNat r).toNat = r := by simp; omega
      rw [this]
      exact hw
  · refine .inr ⟨?_, h2, fun b hb => ?_⟩
    · unfold ws
      simp
      omega
    · have := h3 b hb
      unfold ws
      simp
      omega

def wsb (b : UInt8) : Bool := ws b.toNat

theorem lead_enc : ∀ (m : Nat) (L : List Nat), (∀ r ∈ L, Fine r) → (L.flatMap enc).drop (lead wsb m (L.flatMap enc)) = (L.drop (lead ws m L)).flatMap enc
  | 0, L, _ => by cases L <;> simp [lead]
  | m + 1, [], _ => by simp [lead]
  | m + 1, r :: L, h => by
    have ih := lead_enc m L (fun x hx => h x (by simp [hx]))
    rcases fine_ws (h r (by simp)) with ⟨h1, b, h2, h3⟩ | ⟨h1, h2, h3⟩
    · have e1 : lead ws (m + 1) (r :: L) = lead ws m L + 1 := by simp [lead, h1]
      rw [e1, List.drop_succ_cons, ← ih, List.flatMap_cons, h2]
      have e2 : lead wsb (m + 1) ([b] ++ L.flatMap enc) = lead wsb m (L.flatMap enc) + 1 := by simp [lead, wsb, h3]
      rw [e2]
      rfl
    · have e1 : lead ws (m + 1) (r :: L) = 0 := by simp [lead, h1]
      rw [e1, List.drop_zero, List.flatMap_cons]
      cases he : enc r with
      | nil => exact absurd he h2
      | cons b t =>
        have hb : wsb b = false := h3 b (by rw [he]; simp)
        have e2 : lead wsb (m + 1) (b :: t ++ L.flatMap enc) = 0 := by simp [lead, hb]
        rw [e2, List.drop_zero]

theorem chop_none {l : List UInt8} (hne : l ≠ []) (h : ∀ b ∈ l, wsb b = false) (t : List UInt8) (ht : chop wsb t = [] → t = [] ∨ True) : chop wsb (l ++ t) = l ++ chop wsb t := by
  induction l with
  | nil => exact absurd rfl hne
  | cons b l ih =>
    rw [List.cons_append, chop_cons, if_neg (fun hc => by have := h b (by simp); rw [hc.2] at this; cases this)]
    by_cases hl : l = []
    · subst hl
      rfl
    · rw [ih hl (fun x hx => h x (by simp [hx]))]
      rfl

theorem chop_enc : ∀ (L : List Nat), (∀ r ∈ L, Fine r) → chop wsb (L.flatMap enc) = (chop ws L).flatMap enc
  | [], _ => rfl
  | r :: L, h => by
    have ih := chop_enc L (fun x hx => h x (by simp [hx]))
    have hfl : (∀ r ∈ chop ws L, Fine r) := fun x hx => h x (by
      unfold chop at hx
      have := List.mem_reverse.1 hx
      have := (List.dropWhile_sublist ws).mem this
      simpa using Or.inr (List.mem_reverse.1 this))
    rcases fine_ws (h r (by simp)) with ⟨h1, b, h2, h3⟩ | ⟨h1, h2, h3⟩
    · rw [List.flatMap_cons, h2, chop_cons]
      show chop wsb (b :: L.flatMap enc) = _
      rw [chop_cons, ih]
      by_cases hc : chop ws L = []
      · have hb : (chop ws L).flatMap enc = [] := by rw [hc]; rfl
        rw [if_pos ⟨hb, h3⟩, if_pos ⟨hc, h1⟩]
        rfl
      · have hne : (chop ws L).flatMap enc ≠ [] := by
          cases hL : chop ws L with
          | nil => exact absurd hL hc
          | cons x t =>
            rw [List.flatMap_cons]
            rcases fine_ws (hfl x (by rw [hL]; simp)) with ⟨-, y, h5, -⟩ | ⟨-, h5, -⟩
            · rw [h5]; simp
            · simp [h5]
        rw [if_neg (fun h => hne h.1), if_neg (fun h => hc h.1), List.flatMap_cons, h2]
        rfl
    · rw [List.flatMap_cons, chop_none h2 (fun x hx => h3 x hx) _ (fun _ => .inr trivial), ih, chop_cons, if_neg (fun hc => by rw [h1] at hc; cases hc.2), List.flatMap_cons]

/-- THE LAW: code points stripped, as bytes, are the bytes stripped. -/
theorem stripped (m : Nat) (L : List Nat) (h : ∀ r ∈ L, Fine r) : (front ws m L).flatMap enc = back wsb m (L.flatMap enc) := by
  rw [← front_back]
  unfold front
  rw [lead_enc m L h, chop_enc _ (fun r hr => h r (List.mem_of_mem_drop hr))]
end Go.Proofs.YthdlekfnmabldaaDoor.fnLinesStripped
