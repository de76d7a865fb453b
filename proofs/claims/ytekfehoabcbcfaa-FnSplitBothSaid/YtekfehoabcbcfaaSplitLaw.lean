/-
  FnSplitBoth: the plain law: parts between separators that cannot overlap themselves are the same from the left and from the right.
-/
import Derived.Test.YtekfehoabcbcfaaPts
import Derived.Lib.LastIndexLaws
namespace Go.Proofs.Ytekfehoabcbcfaa.fnSplitBoth
open Go Go.Proofs.Ytekfehoabcbcfaa.pts
set_option linter.unusedSimpArgs false
set_option linter.unusedVariables false
set_option maxRecDepth 100000

/-- A separator stands at a place. -/
def At (C S : List UInt8) (i : Nat) : Prop := C <+: S.drop i

theorem at_iff (C S : List UInt8) (i : Nat) : Lib.occAt S C i = true ↔ At C S i := by
  unfold Lib.occAt At
  exact List.isPrefixOf_iff_prefix

theorem at_no (C S : List UInt8) (i : Nat) : Lib.occAt S C i = false ↔ ¬ At C S i := by
  rw [← at_iff]
  cases Lib.occAt S C i <;> simp

/-- A part that the separator ends: it stands nowhere earlier. -/
def First (C x : List UInt8) : Prop := ∀ i, i < x.length → ¬ At C (x ++ C) i

/-- A part in which no separator stands. -/
def Free (C x : List UInt8) : Prop := ∀ i, ¬ At C x i

/-- Parts, each with a separator behind it. -/
def glue (C : List UInt8) (D : List (List UInt8)) : List UInt8 := D.flatMap (fun x => x ++ C)

theorem glue_nil (C : List UInt8) : glue C [] = [] := rfl
theorem glue_cons (C x : List UInt8) (D : List (List UInt8)) : glue C (x :: D) = x ++ (C ++ glue C D) := by simp [glue]
theorem glue_snoc (C x : List UInt8) (D : List (List UInt8)) : glue C (D ++ [x]) = glue C D ++ (x ++ C) := by simp [glue]

theorem at_here (C P R : List UInt8) : At C (P ++ (C ++ R)) P.length := by
  unfold At
  rw [List.drop_left]
  exact ⟨R, rfl⟩

theorem at_len {C S : List UInt8} {i : Nat} (h : At C S i) (hC : C ≠ []) : i + C.length ≤ S.length := by
  have h2 := h.length_le
  rw [List.length_drop] at h2
  have : 0 < C.length := List.length_pos_iff.2 hC
  omega

/-- A separator that stands far enough ahead stands there without what is behind, too. -/
theorem at_part {C x R : List UInt8} {i : Nat} (h : At C (x ++ R) i) (hi : i + C.length ≤ x.length) : At C x i := by
  unfold At at h ⊢
  rw [List.drop_append_of_le_length (by omega)] at h
  exact List.prefix_of_prefix_length_le h (List.prefix_append _ _) (by rw [List.length_drop]; omega)

theorem at_more {C x R : List UInt8} {i : Nat} (h : At C x i) (hi : i ≤ x.length) : At C (x ++ R) i := by
  unfold At at h ⊢
  rw [List.drop_append_of_le_length hi]
  exact h.trans (List.prefix_append _ _)

theorem first_free {C x : List UInt8} (hC : C ≠ []) (h : First C x) : Free C x := by
  intro i hi
  have h2 := at_len hi hC
  have : 0 < C.length := List.length_pos_iff.2 hC
  exact h i (by omega) (at_more hi (by omega))

/-- What an index tells. -/
theorem first_of {C x R : List UInt8} (h : ∀ i, i < x.length → ¬ At C (x ++ (C ++ R)) i) : First C x := by
  intro i hi hat
  refine h i hi ?_
  rw [← List.append_assoc]
  exact at_more hat (by rw [List.length_append]; omega)

theorem free_of {C S : List UInt8} (hC : C ≠ []) (h : ∀ i, i + C.length ≤ S.length → ¬ At C S i) : Free C S := fun i hi => h i (at_len hi hC) hi

/-- There is one such way alone. -/
theorem cut_one {C : List UInt8} (hC : C ≠ []) : ∀ (D D' : List (List UInt8)) (R R' : List UInt8), (∀ x ∈ D, First C x) → (∀ x ∈ D', First C x) → Free C R → Free C R' → glue C D ++ R = glue C D' ++ R' → D = D' ∧ R = R'
  | [], [], R, R', _, _, _, _, h => ⟨rfl, by simpa [glue] using h⟩
  | [], y :: D', R, R', _, _, hR, _, h => by
    rw [glue_nil, List.nil_append, glue_cons] at h
    exact absurd (by rw [h, List.append_assoc, List.append_assoc]; exact at_here C y _) (hR y.length)
  | x :: D, [], R, R', _, _, _, hR', h => by
    rw [glue_nil, List.nil_append, glue_cons] at h
    exact absurd (by rw [← h, List.append_assoc, List.append_assoc]; exact at_here C x _) (hR' x.length)
  | x :: D, y :: D', R, R', hD, hD', hR, hR', h => by
    rw [glue_cons, glue_cons, List.append_assoc, List.append_assoc, List.append_assoc, List.append_assoc] at h
    have hx := hD x (by simp)
    have hy := hD' y (by simp)
    have hlen : x.length = y.length := by
      rcases Nat.lt_trichotomy x.length y.length with hl | hl | hl
      · have h1 := at_here C x (glue C D ++ R)
        rw [h, ← List.append_assoc, ← List.append_assoc] at h1
        exact absurd (at_part (by rw [List.append_assoc] at h1; exact h1) (by rw [List.length_append]; omega)) (hy _ hl)
      · exact hl
      · have h1 := at_here C y (glue C D' ++ R')
        rw [← h, ← List.append_assoc, ← List.append_assoc] at h1
        exact absurd (at_part (by rw [List.append_assoc] at h1; exact h1) (by rw [List.length_append]; omega)) (hx _ hl)
    obtain ⟨h1, h2⟩ := List.append_inj h hlen
    have h3 := List.append_cancel_left h2
    obtain ⟨h4, h5⟩ := cut_one hC D D' R R' (fun z hz => hD z (by simp [hz])) (fun z hz => hD' z (by simp [hz])) hR hR' h3
    exact ⟨by rw [h1, h4], h5⟩

/-- A separator that cannot overlap itself. -/
def Plain (C : List UInt8) : Prop := ∀ n, 1 ≤ n → n < C.length → C.take n ≠ C.drop (C.length - n)

/-- The last place of a separator. -/
theorem last_at {C : List UInt8} (hC : C ≠ []) (hp : Plain C) (P R : List UInt8) (hR : Free C R) : Lib.lastIndex (P ++ (C ++ R)) C = P.length := by
  have h0 : 0 < C.length := List.length_pos_iff.2 hC
  unfold Lib.lastIndex
  rw [if_pos (by simp; omega)]
  rcases Lib.lastOcc_spec (P ++ (C ++ R)) C ((P ++ (C ++ R)).length - C.length + 1) with ⟨-, h⟩ | ⟨i, hi, h1, h2, h3⟩
  · exact absurd (at_here C P R) ((at_no _ _ _).1 (h P.length (by simp; omega)))
  · rw [h1]
    rcases Nat.lt_trichotomy i P.length with hl | hl | hl
    · exact absurd (at_here C P R) ((at_no _ _ _).1 (h3 P.length hl (by simp; omega)))
    · rw [hl]
    · exfalso
      have h4 := (at_iff _ _ _).1 h2
      unfold At at h4
      obtain ⟨d, rfl⟩ : ∃ d, i = P.length + d := ⟨i - P.length, by omega⟩
      rw [← List.drop_drop, List.drop_left] at h4
      by_cases hd : C.length ≤ d
      · obtain ⟨m, rfl⟩ : ∃ m, d = C.length + m := ⟨d - C.length, by omega⟩
        rw [← List.drop_drop, List.drop_left] at h4
        exact hR m h4
      · rw [List.drop_append_of_le_length (by omega)] at h4
        have h5 : C.drop d <+: C := List.prefix_of_prefix_length_le (List.prefix_append _ R) h4 (by rw [List.length_drop]; omega)
        refine hp (C.length - d) (by omega) (by omega) ?_
        rw [show C.length - (C.length - d) = d by omega]
        have h6 := List.prefix_iff_eq_take.1 h5
        rw [List.length_drop] at h6
        exact h6.symm

/-! ### Code points -/

/-- A byte that begins a code point. -/
def Lead (b : UInt8) : Prop := b.toNat < 128 ∨ 192 ≤ b.toNat

theorem enc_lead (r : Nat) (hv : Val r) : ∃ b t, enc r = b :: t ∧ Lead b ∧ ∀ x ∈ t, ¬ Lead x := by
  have hv' := hv
  unfold Val at hv'
  by_cases h1 : r < 128
  · exact ⟨_, _, enc_one h1, .inl (by rw [of_byte (by omega)]; exact h1), fun x hx => by cases hx⟩
  by_cases h2 : r < 2048
  · refine ⟨_, _, enc_two (by omega) h2, .inr (by rw [of_byte (by omega)]; omega), fun x hx => ?_⟩
    simp only [List.mem_cons, List.not_mem_nil, or_false] at hx
    subst hx
    unfold Lead
    rw [of_byte (by omega)]
    omega
  by_cases h3 : r < 65536
  · refine ⟨_, _, enc_three hv (by omega) h3, .inr (by rw [of_byte (by omega)]; omega), fun x hx => ?_⟩
    simp only [List.mem_cons, List.not_mem_nil, or_false] at hx
    unfold Lead
    rcases hx with rfl | rfl <;> rw [of_byte (by omega)] <;> omega
  · refine ⟨_, _, enc_four hv (by omega), .inr (by rw [of_byte (by omega)]; omega), fun x hx => ?_⟩
    simp only [List.mem_cons, List.not_mem_nil, or_false] at hx
    unfold Lead
    rcases hx with rfl | rfl | rfl <;> rw [of_byte (by omega)] <;> omega

/-- Where a code point begins, a list of such parts. -/
theorem cut_at (L : List Nat) : ∀ (P T : List UInt8), (∀ r ∈ L, Val r) → (∀ b t, T = b :: t → Lead b) → L.flatMap enc = P ++ T → ∃ L1 L2 : List Nat, L = L1 ++ L2 ∧ P = L1.flatMap enc ∧ T = L2.flatMap enc := by
  induction L with
  | nil =>
    intro P T _ _ h
    have h2 : P = [] ∧ T = [] := by simpa using h.symm
    exact ⟨[], [], rfl, h2.1, h2.2⟩
  | cons r L ih =>
    intro P T hv hT h
    cases P with
    | nil => exact ⟨[], r :: L, rfl, rfl, h.symm⟩
    | cons p P =>
      obtain ⟨b, t, he, hb, ht⟩ := enc_lead r (hv r (by simp))
      rw [List.flatMap_cons, he] at h
      have h1 := List.cons.inj h
      have h2 : t ++ L.flatMap enc = P ++ T := h1.2
      rcases List.append_eq_append_iff.1 h2 with ⟨a, ha1, ha2⟩ | ⟨a, ha1, ha2⟩
      · obtain ⟨L1, L2, e1, e2, e3⟩ := ih a T (fun x hx => hv x (by simp [hx])) hT ha2
        refine ⟨r :: L1, L2, by rw [e1]; rfl, ?_, e3⟩
        rw [ha1, List.flatMap_cons, he, ← e2, h1.1]
        rfl
      · cases a with
        | nil =>
          refine ⟨[r], L, rfl, ?_, by simpa using ha2⟩
          rw [List.append_nil] at ha1
          rw [List.flatMap_cons, he, ha1, h1.1]
          simp
        | cons x a =>
          exfalso
          exact ht x (by rw [ha1]; simp) (hT x _ ha2)

theorem point_one {r u : Nat} {X Y : List UInt8} (hr : Val r) (hu : Val u) (h : enc r ++ X = enc u ++ Y) : r = u ∧ X = Y := by
  have p1 := piece_at (s := ⟨(enc r ++ X).toArray⟩) (i := 0) hr X (by simp)
  have p2 := piece_at (s := ⟨(enc r ++ X).toArray⟩) (i := 0) hu Y (by simpa using h)
  have h1 := p1.dec.symm.trans p2.dec
  have h2 : r = u := congrArg Prod.fst h1
  subst h2
  exact ⟨rfl, List.append_cancel_left h⟩

/-- The code points that begin others, as bytes do. -/
theorem cut_head (U : List Nat) : ∀ (L : List Nat) (T : List UInt8), (∀ r ∈ U, Val r) → (∀ r ∈ L, Val r) → U.flatMap enc ++ T = L.flatMap enc → ∃ L2 : List Nat, L = U ++ L2 ∧ T = L2.flatMap enc := by
  induction U with
  | nil => exact fun L T _ _ h => ⟨L, rfl, h⟩
  | cons u U ih =>
    intro L T hu hv h
    cases L with
    | nil =>
      exfalso
      have := enc_pos u
      have h2 := congrArg List.length h
      rw [List.flatMap_cons, List.append_assoc, List.length_append] at h2
      have h3 : (List.flatMap enc ([] : List Nat)).length = 0 := rfl
      omega
    | cons r L =>
      rw [List.flatMap_cons, List.flatMap_cons, List.append_assoc] at h
      obtain ⟨rfl, h2⟩ := point_one (hu u (by simp)) (hv r (by simp)) h
      obtain ⟨L2, e1, e2⟩ := ih L T (fun x hx => hu x (by simp [hx])) (fun x hx => hv x (by simp [hx])) h2
      exact ⟨L2, by rw [e1]; rfl, e2⟩

theorem head_lead {U : List Nat} (hne : U ≠ []) (hu : ∀ r ∈ U, Val r) (X : List UInt8) : ∀ b t, U.flatMap enc ++ X = b :: t → Lead b := by
  intro b t h
  cases U with
  | nil => exact absurd rfl hne
  | cons u U =>
    obtain ⟨c, s, he, hc, -⟩ := enc_lead u (hu u (by simp))
    rw [List.flatMap_cons, he] at h
    rw [← (List.cons.inj h).1]
    exact hc

theorem flat_ne {U : List Nat} (hne : U ≠ []) : U.flatMap enc ≠ [] := by
  cases U with
  | nil => exact absurd rfl hne
  | cons u U =>
    intro h
    have := enc_pos u
    have h2 := congrArg List.length h
    rw [List.flatMap_cons, List.length_append] at h2
    simp at h2
    have : (enc u).length = 0 := by rw [h2.1]; rfl
    omega

/-- Parts of code points between separators that are such are such. -/
theorem parts_val {U : List Nat} (hne : U ≠ []) (hu : ∀ r ∈ U, Val r) : ∀ (D : List (List UInt8)) (R : List UInt8) (L : List Nat), (∀ r ∈ L, Val r) → glue (U.flatMap enc) D ++ R = L.flatMap enc → ∀ x ∈ D ++ [R], ∃ M : List Nat, x = M.flatMap enc ∧ ∀ r ∈ M, Val r
  | [], R, L, hv, h => fun x hx => by
    obtain rfl : x = R := by simpa using hx
    exact ⟨L, by simpa [glue] using h, hv⟩
  | y :: D, R, L, hv, h => fun x hx => by
    rw [glue_cons, List.append_assoc, List.append_assoc] at h
    obtain ⟨L1, L2, e1, e2, e3⟩ := cut_at L y _ hv (head_lead hne hu _) h.symm
    obtain ⟨L3, e4, e5⟩ := cut_head U L2 _ hu (fun r hr => hv r (by rw [e1]; simp [hr])) e3
    rcases List.mem_cons.1 hx with h1 | h1
    · exact ⟨L1, by rw [h1, e2], fun r hr => hv r (by rw [e1]; simp [hr])⟩
    · exact parts_val hne hu D R L3 (fun r hr => hv r (by rw [e1, e4]; simp [hr])) e5 x h1

/-- Code points that cannot overlap themselves are such bytes. -/
theorem plain_bytes {U : List Nat} (hne : U ≠ []) (hu : ∀ r ∈ U, Val r) (h : ∀ n, 1 ≤ n → n < U.length → U.take n ≠ U.drop (U.length - n)) : Plain (U.flatMap enc) := by
  intro n h1 h2 h3
  have e1 : U.flatMap enc = (U.flatMap enc).take ((U.flatMap enc).length - n) ++ (U.flatMap enc).drop ((U.flatMap enc).length - n) := (List.take_append_drop _ _).symm
  have e2 : U.flatMap enc = (U.flatMap enc).take n ++ (U.flatMap enc).drop n := (List.take_append_drop _ _).symm
  have hl : ∀ b t, (U.flatMap enc).drop ((U.flatMap enc).length - n) = b :: t → Lead b := by
    intro b t hbt
    rw [← h3] at hbt
    refine head_lead hne hu [] b (t ++ (U.flatMap enc).drop n) ?_
    rw [List.append_nil]
    refine e2.trans ?_
    rw [hbt]
    rfl
  obtain ⟨U1, U2, a1, a2, a3⟩ := cut_at U _ _ hu hl e1
  have hU2 : ∀ r ∈ U2, Val r := fun r hr => hu r (by rw [a1]; simp [hr])
  obtain ⟨U3, b1, b2⟩ := cut_head U2 U ((U.flatMap enc).drop n) hU2 hu (by rw [← a3, ← h3, ← e2])
  have c1 : U2 ≠ [] := by
    intro h
    rw [h] at a3
    have := congrArg List.length a3
    rw [List.length_drop] at this
    simp at this
    have : (U.flatMap enc).length = (U.flatMap enc).length := rfl
    simp at h2
    omega
  have c2 : U1 ≠ [] := by
    intro h
    rw [h] at a2
    have := congrArg List.length a2
    rw [List.length_take] at this
    simp at this
    simp at h2
    omega
  have d1 : 0 < U1.length := List.length_pos_iff.2 c2
  have d2 : 0 < U2.length := List.length_pos_iff.2 c1
  have d3 : U.length = U1.length + U2.length := by rw [a1, List.length_append]
  refine h U2.length d2 (by omega) ?_
  have f1 : U.take U2.length = U2 := by
    have : U.take U2.length = (U2 ++ U3).take U2.length := congrArg _ b1
    rw [this, List.take_left]
  have f2 : U.drop (U.length - U2.length) = U2 := by
    have : U.length - U2.length = U1.length := by omega
    rw [this]
    have : U.drop U1.length = (U1 ++ U2).drop U1.length := congrArg _ a1
    rw [this, List.drop_left]
  rw [f1, f2]

/-- Code points that stand in others stand in them as bytes. -/
theorem free_points {U M : List Nat} (h : Free (U.flatMap enc) (M.flatMap enc)) (i : Nat) (hi : U <+: M.drop i) : False := by
  obtain ⟨t, ht⟩ := hi
  refine h ((M.take i).flatMap enc).length ?_
  unfold At
  have e : M.flatMap enc = (M.take i).flatMap enc ++ (M.drop i).flatMap enc := by rw [← List.flatMap_append, List.take_append_drop]
  rw [e, List.drop_left, ← ht, List.flatMap_append]
  exact List.prefix_append _ _
end Go.Proofs.Ytekfehoabcbcfaa.fnSplitBoth
