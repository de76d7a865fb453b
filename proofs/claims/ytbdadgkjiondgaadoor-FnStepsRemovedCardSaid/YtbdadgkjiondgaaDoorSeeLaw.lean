/-
  FnSeen, FnStepsRemoved: the plain law: fields, and how each is seen, as lists that ascend, and as functions.
-/
import Derived.Test.YtbdadgkjiondgaaDoorRows
namespace Go.Proofs.YtbdadgkjiondgaaDoor.see
set_option linter.unusedSimpArgs false
set_option linter.unusedVariables false

abbrev Nm := List UInt8
abbrev View := Nm → Option Int
abbrev Fl := List (Nm × Int)

/-- Ascending, no name twice. -/
def Up (L : Fl) : Prop := L.Pairwise (fun a b => a.1 < b.1)

/-- What a list says of a name. -/
def look (L : Fl) (x : Nm) : Option Int := (L.find? (fun a => a.1 = x)).map (·.2)

theorem lt_or {a b : Nm} (h : ¬ a < b) (h2 : a ≠ b) : b < a := by
  rcases List.le_iff_lt_or_eq.1 (List.not_lt.1 h) with h | h
  · exact h
  · exact absurd h.symm h2

theorem lt_ne {a b : Nm} (h : a < b) : a ≠ b := fun e => by subst e; exact List.lt_irrefl a h

theorem look_nil (x : Nm) : look [] x = none := rfl

theorem look_cons (a : Nm × Int) (L : Fl) (x : Nm) : look (a :: L) x = if a.1 = x then some a.2 else look L x := by
  unfold look
  rw [List.find?_cons]
  by_cases h : a.1 = x
  · simp [h]
  · simp [h]

theorem look_none {L : Fl} {x : Nm} : look L x = none ↔ ∀ a ∈ L, a.1 ≠ x := by
  induction L with
  | nil => simp [look_nil]
  | cons a L ih =>
    rw [look_cons]
    by_cases h : a.1 = x
    · simp [h]
    · simp [h, ih]

theorem look_mem {L : Fl} (hL : Up L) {x : Nm} {h : Int} : look L x = some h ↔ (x, h) ∈ L := by
  induction L with
  | nil => simp [look_nil]
  | cons a L ih =>
    have h1 := List.pairwise_cons.1 hL
    rw [look_cons]
    by_cases hx : a.1 = x
    · rw [if_pos hx]
      constructor
      · intro e
        have e2 := Option.some.inj e
        subst hx e2
        simp
      · intro e
        rcases List.mem_cons.1 e with e | e
        · rw [← e]
        · exact absurd hx (lt_ne (h1.1 _ e))
    · rw [if_neg hx, ih h1.2]
      constructor
      · intro e; exact List.mem_cons_of_mem _ e
      · intro e
        rcases List.mem_cons.1 e with e | e
        · exact absurd (by rw [← e]) hx
        · exact e

/-- The place of a field. -/
def ins : Fl → Nm → Int → Fl
  | [], x, h => [(x, h)]
  | a :: r, x, h => if a.1 < x then a :: ins r x h else if a.1 = x then (x, if h = 0 then a.2 else h) :: r else (x, h) :: a :: r

theorem ins_mem {L : Fl} {x : Nm} {h : Int} : ∀ b ∈ ins L x h, b.1 = x ∨ b ∈ L := by
  induction L with
  | nil => intro b hb; simp [ins] at hb; left; rw [hb]
  | cons a L ih =>
    intro b hb
    unfold ins at hb
    split at hb
    · rcases List.mem_cons.1 hb with e | e
      · right; rw [e]; exact List.mem_cons_self ..
      · rcases ih b e with h1 | h1
        · exact .inl h1
        · exact .inr (List.mem_cons_of_mem _ h1)
    · split at hb
      · rcases List.mem_cons.1 hb with e | e
        · left; rw [e]
        · exact .inr (List.mem_cons_of_mem _ e)
      · rcases List.mem_cons.1 hb with e | e
        · left; rw [e]
        · exact .inr e

theorem ins_up {L : Fl} (hL : Up L) (x : Nm) (h : Int) : Up (ins L x h) := by
  induction L with
  | nil => exact List.pairwise_singleton _ _
  | cons a L ih =>
    have h1 := List.pairwise_cons.1 hL
    unfold ins
    split
    · rename_i hlt
      refine List.pairwise_cons.2 ⟨fun b hb => ?_, ih h1.2⟩
      rcases ins_mem b hb with e | e
      · rw [e]; exact hlt
      · exact h1.1 b e
    · rename_i hlt
      split
      · rename_i he
        refine List.pairwise_cons.2 ⟨fun b hb => ?_, h1.2⟩
        have := h1.1 b hb
        rw [he] at this
        exact this
      · rename_i he
        have hx : x < a.1 := lt_or hlt he
        refine List.pairwise_cons.2 ⟨fun b hb => ?_, hL⟩
        rcases List.mem_cons.1 hb with e | e
        · rw [e]; exact hx
        · exact List.lt_trans hx (h1.1 b e)

theorem look_ins {L : Fl} (hL : Up L) (x : Nm) (h : Int) (y : Nm) : look (ins L x h) y = if y = x then some (if h = 0 then (look L x).getD 0 else h) else look L y := by
  induction L with
  | nil =>
    unfold ins
    rw [look_cons, look_nil]
    by_cases e : y = x
    · subst e; simp [look_nil]
    · rw [if_neg (fun e2 => e e2.symm), if_neg e]
  | cons a L ih =>
    have h1 := List.pairwise_cons.1 hL
    unfold ins
    split
    · rename_i hlt
      have hne := lt_ne hlt
      rw [look_cons, ih h1.2, look_cons, look_cons]
      by_cases e : y = x
      · subst e
        rw [if_neg hne, if_pos rfl, if_pos rfl, if_neg hne]
      · rw [if_neg e, if_neg e]
    · rename_i hlt
      split
      · rename_i he
        rw [look_cons, look_cons, look_cons]
        by_cases e : y = x
        · subst e
          simp [he]
        · rw [if_neg (fun e2 => e e2.symm), if_neg e, if_neg (fun e2 => e (by rw [← e2, he]))]
      · rename_i he
        have hx : x < a.1 := lt_or hlt he
        rw [look_cons]
        by_cases e : y = x
        · subst e
          have hn : look (a :: L) y = none := look_none.2 (fun b hb => by
            rcases List.mem_cons.1 hb with e | e
            · rw [e]; exact he
            · exact (lt_ne (List.lt_trans hx (h1.1 b e))).symm)
          simp [hn]
        · rw [if_neg (fun e2 => e e2.symm), if_neg e]

/-- One round of the specification's loop. -/
def swStep (x : Nm) (s : Fl × Bool × Int) (a : Nm × Int) : Fl × Bool × Int :=
  let t : Fl × Bool × Int := if s.2.1 = false ∧ ¬ a.1 < x then (s.1 ++ [(x, if a.1 = x ∧ s.2.2 = 0 then a.2 else s.2.2)], true, if a.1 = x ∧ s.2.2 = 0 then a.2 else s.2.2) else s
  if a.1 = x then t else (t.1 ++ [a], t.2.1, t.2.2)

def swFin (x : Nm) (s : Fl × Bool × Int) : Fl := if s.2.1 = true then s.1 else s.1 ++ [(x, s.2.2)]

theorem sw_done {L : Fl} {x : Nm} (hL : ∀ a ∈ L, a.1 ≠ x) (out : Fl) (h : Int) : L.foldl (swStep x) (out, true, h) = (out ++ L, true, h) := by
  induction L generalizing out with
  | nil => simp
  | cons a L ih =>
    have ha := hL a (List.mem_cons_self ..)
    rw [List.foldl_cons]
    have e : swStep x (out, true, h) a = (out ++ [a], true, h) := by simp [swStep, ha]
    rw [e, ih (fun b hb => hL b (List.mem_cons_of_mem _ hb))]
    simp

theorem sw_all {L : Fl} (hL : Up L) (x : Nm) (out : Fl) (h : Int) : swFin x (L.foldl (swStep x) (out, false, h)) = out ++ ins L x h := by
  induction L generalizing out with
  | nil => simp [swFin, ins]
  | cons a L ih =>
    have h1 := List.pairwise_cons.1 hL
    rw [List.foldl_cons]
    unfold ins
    by_cases hlt : a.1 < x
    · have e : swStep x (out, false, h) a = (out ++ [a], false, h) := by simp [swStep, hlt, lt_ne hlt]
      rw [e, ih h1.2, if_pos hlt]
      simp
    · rw [if_neg hlt]
      by_cases he : a.1 = x
      · have e : swStep x (out, false, h) a = (out ++ [(x, if h = 0 then a.2 else h)], true, if h = 0 then a.2 else h) := by simp [swStep, hlt, he]
        rw [e, sw_done (fun b hb => by rw [← he]; exact (lt_ne (h1.1 b hb)).symm), if_pos he]
        simp [swFin]
      · have hx : x < a.1 := lt_or hlt he
        have e : swStep x (out, false, h) a = (out ++ [(x, h), a], true, h) := by simp [swStep, hlt, he]
        rw [e, sw_done (fun b hb => (lt_ne (List.lt_trans hx (h1.1 b hb))).symm), if_neg he]
        simp [swFin]

/-- How the package writes it. -/
def conv (h : Int) : Int := if h = 0 then 1 else if h = 1 then 0 else 2

def Code (h : Int) : Prop := h = 0 ∨ h = 1 ∨ h = 2

/-- A field is added to the right. -/
def put (f : View) (x : Nm) (h : Int) : View := fun y => if y = x then (if h = 1 then some ((f y).getD 1) else some h) else f y

def drop (f : View) (x : Nm) : View := fun y => if y = x then none else f y

def without (L : Fl) (x : Nm) : Fl := L.filter (fun a => !decide (a.1 = x))

theorem without_up {L : Fl} (hL : Up L) (x : Nm) : Up (without L x) := hL.filter _

theorem look_without (L : Fl) (x y : Nm) : look (without L x) y = if y = x then none else look L y := by
  induction L with
  | nil => simp [without, look_nil]
  | cons a L ih =>
    unfold without at ih ⊢
    rw [List.filter_cons]
    by_cases ha : a.1 = x
    · rw [if_neg (by simp [ha]), ih, look_cons]
      by_cases e : y = x
      · rw [if_pos e, if_pos e]
      · rw [if_neg e, if_neg e, if_neg (fun e2 => e (by rw [← e2, ha]))]
    · rw [if_pos (by simp [ha]), look_cons, ih, look_cons]
      by_cases e : y = x
      · subst e
        rw [if_neg ha, if_pos rfl, if_pos rfl]
      · rw [if_neg e, if_neg e]

/-- A list says what a function says; all its codes are codes. -/
structure Says (L : Fl) (f : View) : Prop where
  up : Up L
  code : ∀ a ∈ L, Code a.2
  view : ∀ x, f x = (look L x).map conv

theorem says_nil : Says [] (fun _ => none) := ⟨List.Pairwise.nil, fun a h => (by cases h), fun x => rfl⟩

theorem conv_code {h : Int} (hc : Code h) : (conv h = 1 ↔ h = 0) := by
  rcases hc with rfl | rfl | rfl <;> simp [conv]

theorem Says.put {L : Fl} {f : View} (h : Says L f) (x : Nm) {c : Int} (hc : Code c) : Says (ins L x c) (put f x (conv c)) := by
  refine ⟨ins_up h.up x c, fun a ha => ?_, fun y => ?_⟩
  · by_cases e : a.1 = x
    · have h1 := (look_mem (ins_up h.up x c)).2 (show (a.1, a.2) ∈ ins L x c from ha)
      rw [look_ins h.up, if_pos e] at h1
      have h2 := Option.some.inj h1
      rw [← h2]
      by_cases h0 : c = 0
      · rw [if_pos h0]
        cases hl : look L x with
        | none => exact .inl rfl
        | some q => exact h.code _ ((look_mem h.up).1 hl)
      · rw [if_neg h0]; exact hc
    · rcases ins_mem a ha with e2 | e2
      · exact absurd e2 e
      · exact h.code a e2
  · rw [look_ins h.up]
    unfold see.put
    by_cases e : y = x
    · subst e
      rw [if_pos rfl, if_pos rfl, h.view y]
      by_cases h0 : c = 0
      · subst h0
        rw [if_pos (by decide), if_pos rfl]
        cases hl : look L y with
        | none => simp [conv]
        | some q => simp
      · rw [if_neg (fun e => h0 ((conv_code hc).1 e)), if_neg h0]
        rfl
    · rw [if_neg e, if_neg e, h.view y]

theorem Says.drop {L : Fl} {f : View} (h : Says L f) (x : Nm) : Says (without L x) (drop f x) := by
  refine ⟨without_up h.up x, fun a ha => h.code a (List.mem_filter.1 ha).1, fun y => ?_⟩
  rw [look_without]
  unfold see.drop
  by_cases e : y = x
  · rw [if_pos e, if_pos e]; rfl
  · rw [if_neg e, if_neg e, h.view y]

/-- A step. -/
structure Sp where
  is : Bool
  rem : Nm
  n : Nat
  nm : Nat → Nm
  hd : Nat → Int

/-- A step that is one. -/
structure SpOk (s : Sp) : Prop where
  few : s.n ≤ 12
  none : s.is = true → s.n = 0
  code : ∀ k, k < s.n → Code (s.hd k)
  apart : ∀ k j, j < k → k < s.n → s.nm j ≠ s.nm k

def putsL (s : Sp) (L : Fl) : Nat → Fl
  | 0 => L
  | k + 1 => ins (putsL s L k) (s.nm k) (s.hd k)

def stepL (L : Fl) (s : Sp) : Fl := putsL s (if s.is = true then without L s.rem else L) s.n

def madeL (X : Nat → Sp) : Nat → Fl
  | 0 => []
  | k + 1 => stepL (madeL X k) (X k)

def putsV (s : Sp) (f : View) : Nat → View
  | 0 => f
  | k + 1 => put (putsV s f k) (s.nm k) (conv (s.hd k))

def stepV (f : View) (s : Sp) : View := if s.is = true then drop f s.rem else putsV s f s.n

def madeV (X : Nat → Sp) : Nat → View
  | 0 => fun _ => none
  | k + 1 => stepV (madeV X k) (X k)

theorem puts_says {s : Sp} (hs : SpOk s) {L : Fl} {f : View} (h : Says L f) : ∀ k, k ≤ s.n → Says (putsL s L k) (putsV s f k)
  | 0, _ => h
  | k + 1, hk => (puts_says hs h k (by omega)).put _ (hs.code k (by omega))

theorem made_says (X : Nat → Sp) (n : Nat) (hX : ∀ i, i < n → SpOk (X i)) : ∀ k, k ≤ n → Says (madeL X k) (madeV X k)
  | 0, _ => says_nil
  | k + 1, hk => by
    have ih := made_says X n hX k (by omega)
    have hs := hX k (by omega)
    show Says (stepL _ _) (stepV _ _)
    unfold stepL stepV
    by_cases hi : (X k).is = true
    · rw [if_pos hi, if_pos hi, hs.none hi]
      exact ih.drop _
    · rw [if_neg hi, if_neg hi]
      exact puts_says hs ih _ (Nat.le_refl _)

/-- What a simple object says. -/
def simV (s : Sp) : Nat → View
  | 0 => fun _ => none
  | k + 1 => fun y => if y = s.nm k then some (conv (s.hd k)) else simV s k y

/-- The right one on the left one. -/
def ext (f g : View) : View := fun x => match g x with
  | none => f x
  | some h => if h = 1 then some ((f x).getD 1) else some h

theorem simV_none {s : Sp} {x : Nm} : ∀ k, (∀ j, j < k → s.nm j ≠ x) → simV s k x = none
  | 0, _ => rfl
  | k + 1, h => by
    show (if x = s.nm k then _ else _) = _
    rw [if_neg (fun e => h k (by omega) e.symm)]
    exact simV_none k (fun j hj => h j (by omega))

theorem putsV_none {s : Sp} {f : View} {x : Nm} : ∀ k, (∀ j, j < k → s.nm j ≠ x) → putsV s f k x = f x
  | 0, _ => rfl
  | k + 1, h => by
    show (if x = s.nm k then _ else _) = _
    rw [if_neg (fun e => h k (by omega) e.symm)]
    exact putsV_none k (fun j hj => h j (by omega))

theorem ext_sim {s : Sp} (hs : SpOk s) (f : View) : ∀ k, k ≤ s.n → ext f (simV s k) = putsV s f k
  | 0, _ => rfl
  | k + 1, hk => by
    have ih := ext_sim hs f k (by omega)
    funext y
    show (match (if y = s.nm k then some (conv (s.hd k)) else simV s k y) with | none => f y | some h => if h = 1 then some ((f y).getD 1) else some h) = (if y = s.nm k then _ else _)
    by_cases e : y = s.nm k
    · subst e
      rw [if_pos rfl, if_pos rfl, putsV_none k (fun j hj => hs.apart k j hj (by omega))]
    · rw [if_neg e, if_neg e, ← ih]
      rfl

theorem ext_none (g : View) : ext (fun _ => none) g = g := by
  funext x
  unfold ext
  cases h : g x with
  | none => rfl
  | some q =>
    simp only
    split
    · rename_i e; subst e; rfl
    · rfl

/-- Two ascending lists of names with the same members are one. -/
theorem same_up {A B : List Nm} (hA : A.Pairwise (· < ·)) (hB : B.Pairwise (· < ·)) (h : ∀ x, x ∈ A ↔ x ∈ B) : A = B := by
  induction A generalizing B with
  | nil =>
    cases B with
    | nil => rfl
    | cons b B => have := (h b).2 (List.mem_cons_self ..); cases this
  | cons a A ih =>
    cases B with
    | nil => have := (h a).1 (List.mem_cons_self ..); cases this
    | cons b B =>
      have a1 := List.pairwise_cons.1 hA
      have b1 := List.pairwise_cons.1 hB
      have hab : a = b := by
        rcases List.mem_cons.1 ((h a).1 (List.mem_cons_self ..)) with e | e
        · exact e
        · rcases List.mem_cons.1 ((h b).2 (List.mem_cons_self ..)) with e2 | e2
          · exact e2.symm
          · exact absurd (List.lt_trans (b1.1 a e) (a1.1 b e2)) (List.lt_irrefl _)
      subst hab
      congr 1
      refine ih a1.2 b1.2 (fun x => ⟨fun hx => ?_, fun hx => ?_⟩)
      · rcases List.mem_cons.1 ((h x).1 (List.mem_cons_of_mem _ hx)) with e | e
        · exact absurd e.symm (lt_ne (a1.1 x hx))
        · exact e
      · rcases List.mem_cons.1 ((h x).2 (List.mem_cons_of_mem _ hx)) with e | e
        · exact absurd e.symm (lt_ne (b1.1 x hx))
        · exact e

/-- The names of a list, sorted by the library out of whatever order. -/
theorem sorted_names {L : Fl} {f : View} (h : Says L f) (ks : List Nm) (hn : ks.Nodup) (hk : ∀ x, x ∈ ks ↔ (f x).isSome = true) : ks.mergeSort (fun x y => decide (x ≤ y)) = L.map (·.1) := by
  have hp := List.mergeSort_perm ks (fun x y => decide (x ≤ y))
  have hs : (ks.mergeSort (fun x y => decide (x ≤ y))).Pairwise (fun a b => decide (a ≤ b) = true) := List.pairwise_mergeSort (fun a b c h1 h2 => by simp at h1 h2 ⊢; exact List.le_trans h1 h2) (fun a b => by rcases List.le_total a b with h | h <;> simp [h]) ks
  have hnd : (ks.mergeSort (fun x y => decide (x ≤ y))).Nodup := hp.nodup_iff.2 hn
  refine same_up ?_ ?_ (fun x => ?_)
  · refine (hs.and hnd).imp (fun {a b} hab => ?_)
    rcases List.le_iff_lt_or_eq.1 (of_decide_eq_true hab.1) with h1 | h1
    · exact h1
    · exact absurd h1 hab.2
  · exact List.pairwise_map.2 h.up
  · rw [hp.mem_iff, hk, h.view]
    cases hl : look L x with
    | none =>
      simp
      intro q hq
      exact look_none.1 hl _ hq rfl
    | some q =>
      simp
      exact ⟨q, (look_mem h.up).1 hl⟩

theorem get_code {L : Fl} {f : View} (h : Says L f) {i : Nat} {a : Nm × Int} (ha : L[i]? = some a) : f a.1 = some (conv a.2) ∧ Code a.2 := by
  have hm : a ∈ L := List.mem_of_getElem? ha
  refine ⟨?_, h.code a hm⟩
  rw [h.view, (look_mem h.up).2 (show (a.1, a.2) ∈ L from hm)]
  rfl

/-- How many are kept among the first i. -/
def kept (L : Fl) (x : Nm) (i : Nat) : Nat := (without (L.take i) x).length

theorem kept_step {L : Fl} {x : Nm} {i : Nat} {a : Nm × Int} (ha : L[i]? = some a) : (a.1 = x → kept L x (i + 1) = kept L x i) ∧ (a.1 ≠ x → kept L x (i + 1) = kept L x i + 1 ∧ (without L x)[kept L x i]? = some a) := by
  have hi : i < L.length := (List.getElem?_eq_some_iff.1 ha).1
  have e1 : L.take (i + 1) = L.take i ++ [a] := by rw [List.take_add_one, ha]; rfl
  have e2 : L = L.take i ++ a :: L.drop (i + 1) := by
    have : L.drop i = a :: L.drop (i + 1) := by
      rw [List.drop_eq_getElem_cons hi]
      congr 1
      have := (List.getElem?_eq_some_iff.1 ha).2
      exact this
    rw [← this, List.take_append_drop]
  constructor
  · intro h
    unfold kept without
    rw [e1, List.filter_append]
    simp [h]
  · intro h
    unfold kept without
    constructor
    · rw [e1, List.filter_append]
      simp [h]
    · conv => lhs; arg 1; rw [e2]
      rw [List.filter_append, List.filter_cons, if_pos (by simp [h]), List.getElem?_append_right (Nat.le_refl _), Nat.sub_self]
      rfl

theorem kept_all (L : Fl) (x : Nm) : kept L x L.length = (without L x).length := by unfold kept; rw [List.take_length]
end Go.Proofs.YtbdadgkjiondgaaDoor.see
