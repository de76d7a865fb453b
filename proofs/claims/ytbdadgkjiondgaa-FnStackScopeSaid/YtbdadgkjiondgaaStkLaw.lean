/-
  FnStackScope: the plain law: what a question finds behind a call is what it finds if the call stands alone.
-/
import Derived.Test.YtbdadgkjiondgaaRows
namespace Go.Proofs.Ytbdadgkjiondgaa.fnStackScope
set_option linter.unusedSimpArgs false
set_option linter.unusedVariables false

/-- A step. -/
structure St where
  kind : Int
  names : List ByteArray
  name : ByteArray
  num : Int
  trim : Bool

/-- A frame. -/
structure Fr where
  names : List ByteArray
  clean : Bool
  trim : Bool
  val : Nat

noncomputable instance memDec (s : ByteArray) (L : List ByteArray) : Decidable (s ∈ L) := Classical.propDecidable _

/-- What is found from a frame on downwards. -/
noncomputable def look (S : List Fr) (s : ByteArray) : Nat → Option Nat
  | 0 => none
  | k + 1 => match S[k]? with
    | none => none
    | some f => if s ∈ f.names then some f.val else if f.clean = true then none else look S s k

/-- What a trim leaves. -/
def cut (S : List Fr) : Nat → List Fr
  | 0 => S
  | k + 1 => match S[k]? with
    | none => S
    | some f => if f.clean = true then (if f.trim = true then S.take k else S) else cut S k

/-- A step's frames. -/
def next (S : List Fr) (x : St) (i : Nat) : List Fr :=
  if x.kind = 1 then S ++ [⟨x.names, true, x.trim, i⟩]
  else if x.kind = 2 then S ++ [⟨x.names, false, false, i⟩]
  else if x.kind = 3 then (if (S.length : Int) = x.num then S.take (S.length - 1) else S)
  else if x.kind = 4 then cut S S.length
  else S

def num : Option Nat → Int
  | some n => n
  | none => -1

/-- What a step finds. -/
noncomputable def found (S : List Fr) (x : St) : Int := if x.kind = 5 then num (look S x.name S.length) else -1

def after (X : Nat → St) : Nat → List Fr
  | 0 => []
  | k + 1 => next (after X k) (X k) k

noncomputable def outs (X : Nat → St) (k : Nat) : Int := found (after X k) (X k)

def sh (n : Nat) (f : Fr) : Fr := ⟨f.names, f.clean, f.trim, f.val + n⟩

theorem look_sh (S T : List Fr) (n : Nat) (s : ByteArray) (f : Fr) (h0 : T[0]? = some f) (hc : f.clean = true) : ∀ k, k + 1 ≤ T.length → look (S ++ T.map (sh n)) s (S.length + (k + 1)) = (look T s (k + 1)).map (· + n) := by
  intro k
  induction k with
  | zero =>
    intro hk
    have e : (S ++ T.map (sh n))[S.length]? = some (sh n f) := by
      rw [List.getElem?_append_right (Nat.le_refl _), Nat.sub_self, List.getElem?_map, h0]; rfl
    show look (S ++ T.map (sh n)) s (S.length + 1) = _
    simp only [look, e, h0]
    by_cases hs : s ∈ f.names
    · simp [sh, hs]
    · simp [sh, hs, hc]
  | succ k ih =>
    intro hk
    obtain ⟨g, hg⟩ : ∃ g, T[k + 1]? = some g := ⟨T[k + 1], List.getElem?_eq_getElem (by omega)⟩
    have e : (S ++ T.map (sh n))[S.length + (k + 1)]? = some (sh n g) := by
      rw [List.getElem?_append_right (by omega), show S.length + (k + 1) - S.length = k + 1 by omega, List.getElem?_map, hg]; rfl
    show look (S ++ T.map (sh n)) s (S.length + (k + 1) + 1) = _
    rw [look, look, e, hg]
    by_cases hs : s ∈ g.names
    · simp [sh, hs]
    · by_cases hcl : g.clean = true
      · simp [sh, hs, hcl]
      · have := ih (by omega)
        simp [sh, hs, hcl, this]

/-- Steps that put frames there, or ask. -/
def Pushes (x : St) : Prop := x.kind = 1 ∨ x.kind = 2 ∨ x.kind = 5

theorem after_sh (X Y : Nat → St) (n : Nat) (c : (Y 0).kind = 1) : ∀ j, (∀ i, i ≤ j → X (n + i) = Y i) → (∀ i, 0 < i → i ≤ j → Pushes (Y i)) →
    after X (n + j + 1) = after X n ++ (after Y (j + 1)).map (sh n) ∧ ∃ f, (after Y (j + 1))[0]? = some f ∧ f.clean = true := by
  intro j
  induction j with
  | zero =>
    intro hX hP
    have h0 := hX 0 (Nat.le_refl _)
    have c' : (X n).kind = 1 := by rw [show X n = Y 0 from h0]; exact c
    refine ⟨?_, _, by simp [after, next, c]; rfl, rfl⟩
    show next (after X n) (X n) n = _
    simp only [after, next, c', c, if_true, List.nil_append, List.map_cons, List.map_nil, sh]
    rw [show X n = Y 0 from h0]
    simp
  | succ j ih =>
    intro hX hP
    obtain ⟨h1, f, h2, h3⟩ := ih (fun i hi => hX i (by omega)) (fun i hi hi2 => hP i hi (by omega))
    have hx : X (n + j + 1) = Y (j + 1) := hX (j + 1) (Nat.le_refl _)
    have e1 : after X (n + (j + 1) + 1) = next (after X (n + j + 1)) (X (n + j + 1)) (n + j + 1) := rfl
    have e2 : after Y (j + 1 + 1) = next (after Y (j + 1)) (Y (j + 1)) (j + 1) := rfl
    have hpos : 0 < (after Y (j + 1)).length := by
      rcases List.getElem?_eq_some_iff.1 h2 with ⟨h, -⟩
      exact h
    rw [e1, e2, hx, h1]
    rcases hP (j + 1) (by omega) (Nat.le_refl _) with hk | hk | hk
    · refine ⟨?_, f, ?_, h3⟩
      · simp [next, hk, sh, List.append_assoc, show n + j + 1 = j + 1 + n by omega]
      · simp only [next, hk, if_true]
        rw [List.getElem?_append_left hpos, h2]
    · refine ⟨?_, f, ?_, h3⟩
      · simp [next, hk, sh, List.append_assoc, show n + j + 1 = j + 1 + n by omega]
      · simp only [next, hk]
        simp only [show ¬ ((2 : Int) = 1) by decide, if_false, if_true]
        rw [List.getElem?_append_left hpos, h2]
    · refine ⟨?_, f, ?_, h3⟩
      · simp [next, hk]
      · simpa [next, hk] using h2

theorem num_map (o : Option Nat) (n : Nat) : num (o.map (· + n)) = (if 0 ≤ num o then num o + n else num o) := by
  cases o with
  | none => simp [num]
  | some x => simp [num]

/-- THE PLAIN LAW. -/
theorem scope (X Y : Nat → St) (n m : Nat) (c : (Y 0).kind = 1) (hX : ∀ i, i ≤ m → X (n + i) = Y i) (hP : ∀ i, 0 < i → i ≤ m → Pushes (Y i)) (j : Nat) (hj : j ≤ m) :
    outs X (n + j) = (if 0 ≤ outs Y j then outs Y j + n else outs Y j) := by
  cases j with
  | zero =>
    have h0 : X (n + 0) = Y 0 := hX 0 (Nat.zero_le _)
    unfold outs found
    rw [h0, c]
    simp
  | succ j =>
    have hx : X (n + (j + 1)) = Y (j + 1) := hX (j + 1) hj
    obtain ⟨h1, f, h2, h3⟩ := after_sh X Y n c j (fun i hi => hX i (by omega)) (fun i hi hi2 => hP i hi (by omega))
    unfold outs found
    rw [hx]
    by_cases hk : (Y (j + 1)).kind = 5
    · simp only [hk, if_true]
      have hpos : 0 < (after Y (j + 1)).length := by
        rcases List.getElem?_eq_some_iff.1 h2 with ⟨h, -⟩
        exact h
      obtain ⟨q, hq⟩ : ∃ q, (after Y (j + 1)).length = q + 1 := ⟨(after Y (j + 1)).length - 1, by omega⟩
      have := look_sh (after X n) (after Y (j + 1)) n (Y (j + 1)).name f h2 h3 q (by omega)
      rw [show n + (j + 1) = n + j + 1 from rfl, h1, List.length_append, List.length_map, hq, this, ← hq, num_map]
    · simp [hk]
end Go.Proofs.Ytbdadgkjiondgaa.fnStackScope
