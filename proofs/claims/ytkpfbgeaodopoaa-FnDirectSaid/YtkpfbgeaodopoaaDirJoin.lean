/-
  FnDirect: the builder makes every node.
-/
import Derived.Test.YtkpfbgeaodopoaaDirApply
import Derived.Test.YtkpfbgeaodopoaaDirObj
import Derived.Test.YtkpfbgeaodopoaaDirAssert
namespace Go.Proofs.Ytkpfbgeaodopoaa.fnDirect
open Go.RowKit
set_option linter.unusedSimpArgs false
set_option linter.unusedVariables false

theorem Mem.of_bind {c : Ctx} {k : Nat} (hS : Shape c.E (c.E k) (kids c.E k)) (hk : (c.E k).kind = 36) : Mem c k := hS.mem (.inr (.inl hk))

theorem both_any (c : Ctx) (N : Nat) (ih : NodeTo c N) (hf : Fit c.E c.n) (hS : ∀ i, i < c.n → Shape c.E (c.E i) (kids c.E i)) (hn : c.n ≤ 400) : MakeTo 46 bothK c (N + 1) := by
  intro i lv w P hi hk h9 hs hb hI
  have hfi := hf.2.2 i hi
  have hin : ∀ k ∈ kids c.E i, k < c.n ∧ sz c.E k ≤ N := fun k hk => by have := hfi.kin.mem hk; have := hfi.2.1; exact ⟨by omega, by omega⟩
  simp only [bothK, List.mem_cons, List.not_mem_nil, or_false] at hk
  cases hS i hi with
  | leaf h => exfalso; simp only [List.mem_cons, List.not_mem_nil, or_false] at h; omega
  | super0 h1 h2 => exfalso; have := h9 h1; omega
  | super1 a h1 h2 h3 h4 => exact both_super c N i ih hf hn lv w P hi hs hb hI a h1 h3 h4 h2
  | one a h1 h2 h3 h4 =>
    simp only [List.mem_cons, List.not_mem_nil, or_false] at h1
    have h5 : (c.E i).kind = 10 ∨ (c.E i).kind = 22 ∨ (c.E i).kind = 24 := by omega
    rcases h5 with h5 | h5 | h5
    · exact both_insuper c N i ih hf hn lv w P hi hs hb hI a h5 h3 h4
    · have := h2 h5
      exact both_unary c N i ih hf hn lv w P hi hs hb hI a h5 h3 h4 (by simp only [List.mem_cons, List.not_mem_nil, or_false]; omega)
    · exact both_error c N i ih hf hn lv w P hi hs hb hI a h5 h3 h4
  | array h1 h2 => exact both_array c N i ih hf hn lv w P hi hs hb hI h1 h2
  | two a b h1 h2 h3 h4 h5 =>
    simp only [List.mem_cons, List.not_mem_nil, or_false] at h1
    rcases h1 with h1 | h1
    · exact both_index c N i ih hf hn lv w P hi hs hb hI a b h1 h3 h4 h5
    · exact both_binary c N i ih hf hn lv w P hi hs hb hI a b h1 h3 h4 h5 (h2 h1).1 (h2 h1).2
  | if2 a b h1 h2 h3 h4 => exact both_if_two c N i ih hf hn lv w P hi hs hb hI a b h1 h2 h3 h4
  | if3 a b d h1 h2 h3 h4 h5 => exact both_if_three c N i ih hf hn lv w P hi hs hb hI a b d h1 h2 h3 h4 h5
  | func h1 h2 =>
    obtain ⟨l', k, h3, h4, h5⟩ := h2.pars (i := i) hS hfi.kin hfi.2.1
    exact both_function c N i ih hf hn lv w P hi hs hb hI l' k h1 h3 h4 h5
  | local_ l' h1 h2 h3 =>
    obtain ⟨l', k, h4, h5, h6⟩ := h2
    have h7 : 1 ≤ l'.length := by rw [h4] at h3; simp at h3; omega
    refine both_local c N i ih hf hn lv w P hi hs hb hI l' k h1 h4 (fun j hj => ?_) h6 h7
    obtain ⟨q1, q2⟩ := hin j (by rw [h4]; exact List.mem_append_left _ hj)
    exact Shape.bound hS hf q1 (h5 j hj) (by omega)
  | apply a l' h1 h2 h3 h4 h5 =>
    exact both_apply c N i ih hf hn lv w P hi hs hb hI a l' h1 h2 h3 (fun k hk => (hS k (hin k (by rw [h2]; exact List.mem_cons_of_mem _ hk)).1).arg (h4 k hk)) h5
  | assert2 a b h1 h2 h3 h4 h5 => omega
  | assert3 a b d h1 h2 h3 h4 h5 h6 => omega
  | massert1 a h1 h2 h3 h4 => omega
  | massert2 a b h1 h2 h3 h4 h5 => omega
  | mlocal a h1 h2 h3 => omega
  | param0 h1 h2 => omega
  | param1 a h1 h2 h3 => omega
  | slice a b d e h1 h2 h3 h4 => omega
  | brace a b h1 h2 h3 h4 => omega
  | comp a l' h1 h2 h3 h4 => omega
  | object h1 h2 => omega
  | ocomp l' l'' f l1 l2 h1 => omega
  | bind1 a h1 h2 h3 h4 => omega
  | bind2 h1 h2 h3 => omega
  | fieldm l' h1 h2 h3 h4 => omega
  | fieldp a h1 h2 h3 h4 h5 => omega
  | fieldem a l' h1 h2 h3 h4 h5 => omega
  | fieldep a b h1 h2 h3 h4 h5 => omega

theorem Specs.all {c : Ctx} {l : List Nat} (hS : ∀ k ∈ l, Shape c.E (c.E k) (kids c.E k)) (h : Specs c.E l) : ∀ k ∈ l, Spc c.E k := by
  obtain ⟨k, l', rfl, h1, h2⟩ := h
  intro j hj
  refine (hS j hj).spc ?_
  rcases List.mem_cons.1 hj with rfl | hj
  · exact .inl h1
  · exact h2 j hj

theorem sugar_any (c : Ctx) (N : Nat) (ih : NodeTo c N) (hf : Fit c.E c.n) (hS : ∀ i, i < c.n → Shape c.E (c.E i) (kids c.E i)) (hn : c.n ≤ 400) : MakeTo 48 sugarK c (N + 1) := by
  intro i lv w P hi hk h9 hs hb hI
  have hfi := hf.2.2 i hi
  have hin : ∀ k ∈ kids c.E i, k < c.n ∧ sz c.E k ≤ N := fun k hk => by have := hfi.kin.mem hk; have := hfi.2.1; exact ⟨by omega, by omega⟩
  simp only [sugarK, List.mem_cons, List.not_mem_nil, or_false] at hk
  cases hS i hi with
  | leaf h => exfalso; simp only [List.mem_cons, List.not_mem_nil, or_false] at h; omega
  | one a h1 h2 h3 h4 =>
    simp only [List.mem_cons, List.not_mem_nil, or_false] at h1
    have h5 : (c.E i).kind = 16 ∨ (c.E i).kind = 30 := by omega
    rcases h5 with h5 | h5
    · exact sugar_dot c N i ih hf hn lv w P hi hs hb hI a h5 h3 h4
    · exact sugar_parens c N i ih hf hn lv w P hi hs hb hI a h5 h3 h4
  | assert2 a b h1 h2 h3 h4 h5 => exact sugar_assert_two c N i ih hf hn lv w P hi hs hb hI a b h1 h2 h3 h4 h5
  | assert3 a b d h1 h2 h3 h4 h5 h6 => exact sugar_assert_three c N i ih hf hn lv w P hi hs hb hI a b d h1 h2 h3 h4 h5 h6
  | slice a b d e h1 h2 h3 h4 =>
    have hm : ∀ k ∈ [b, d, e], ∃ q, Mb c k q := fun k hk => by
      rcases h4 k hk with h | h
      · exact ⟨true, h⟩
      · refine ⟨false, h, ?_⟩
        have hkn := (hin k (by rw [h2]; exact List.mem_cons_of_mem _ hk)).1
        have hk0 : kids c.E k = [] := by
          cases hS k hkn with
          | leaf _ h => exact h
          | one _ h _ _ _ => exfalso; simp only [List.mem_cons, List.not_mem_nil, or_false] at h; omega
          | two _ _ h _ _ _ _ => exfalso; simp only [List.mem_cons, List.not_mem_nil, or_false] at h; omega
          | ocomp _ _ _ _ _ h => omega
          | _ => omega
        have hkk := (hf.2.2 k hkn).kin
        rw [hk0] at hkk
        have := hkk.nil_inv
        omega
    obtain ⟨q1, m1⟩ := hm b (by simp)
    obtain ⟨q2, m2⟩ := hm d (by simp)
    obtain ⟨q3, m3⟩ := hm e (by simp)
    exact sugar_slice c N i ih hf hn lv w P hi hs hb hI a b d e q1 q2 q3 h1 h2 h3 m1 m2 m3
  | brace a b h1 h2 h3 h4 => exact sugar_brace c N i ih hf hn lv w P hi hs hb hI a b h1 h2 h3 (by unfold ex; omega) h4
  | comp a l' h1 h2 h3 h4 =>
    exact sugar_arraycomp c N i ih hf hn lv w P hi hs hb hI a l' h1 h2 h3 h4 (h4.all (fun k hk => hS k (hin k (by rw [h2]; exact List.mem_cons_of_mem _ hk)).1))
  | object h1 h2 => exact sugar_object c N i ih hf hS hn lv w P hi hs hb hI h1 (fun k hk => (hS k (hin k hk).1).mem (h2 k hk))
  | ocomp l' l'' f l1 l2 h1 h2 h3 h4 h5 h6 h7 h8 h10 =>
    subst h3
    refine sugar_objcomp c N i ih hf hS hn lv w P hi hs hb hI h1 l1 l2 l'' f h2 h4 h5 h6 h7 h8 h10 (h10.all (fun k hk => hS k (hin k (by rw [h2]; exact List.mem_append_right _ hk)).1)) (fun k hk => ?_)
    refine (hS k (hin k (by rw [h2]; exact List.mem_append_left _ hk)).1).mem ?_
    rcases List.mem_append.1 hk with hk | hk
    · exact .inr (.inl (h7 k hk))
    · rcases List.mem_cons.1 hk with rfl | hk
      · exact .inl h4
      · exact .inr (.inl (h8 k hk))
  | super0 h1 h2 => omega
  | super1 a h1 h2 h3 h4 => omega
  | array h1 h2 => omega
  | two a b h1 h2 h3 h4 h5 => exfalso; simp only [List.mem_cons, List.not_mem_nil, or_false] at h1; omega
  | if2 a b h1 h2 h3 h4 => omega
  | if3 a b d h1 h2 h3 h4 h5 => omega
  | func h1 h2 => omega
  | local_ l' h1 h2 h3 => omega
  | apply a l' h1 h2 h3 h4 h5 => omega
  | massert1 a h1 h2 h3 h4 => omega
  | massert2 a b h1 h2 h3 h4 h5 => omega
  | mlocal a h1 h2 h3 => omega
  | param0 h1 h2 => omega
  | param1 a h1 h2 h3 => omega
  | bind1 a h1 h2 h3 h4 => omega
  | bind2 h1 h2 h3 => omega
  | fieldm l' h1 h2 h3 h4 => omega
  | fieldp a h1 h2 h3 h4 h5 => omega
  | fieldem a l' h1 h2 h3 h4 h5 => omega
  | fieldep a b h1 h2 h3 h4 h5 => omega

theorem made_step (c : Ctx) (N : Nat) (ih : NodeTo c N) (hf : Fit c.E c.n) (hS : ∀ i, i < c.n → Shape c.E (c.E i) (kids c.E i)) (hn : c.n ≤ 400) : MadeTo c (N + 1) := by
  intro i w P hi hx hs hb
  by_cases hb1 : (c.E i).kind ∈ bothK ∧ ((c.E i).kind = 9 → (c.E i).flag = 0)
  · exact made_both c i w P hf hn hi hb (N + 1) (both_any c N ih hf hS hn) hb1.1 hb1.2 hs
  · by_cases hb2 : (c.E i).kind ∈ sugarK
    · exact made_sugar c i w P hf hn hi hb (N + 1) (sugar_any c N ih hf hS hn) hb2 hs
    · obtain ⟨hx1, hx2⟩ := hx
      simp only [bothK, sugarK, List.mem_cons, List.not_mem_nil, or_false] at hb1 hb2
      by_cases h9 : (c.E i).kind = 9
      · cases hS i hi with
        | super0 h1 h2 h3 => exact made_super c i w P hf hn hi hb h1 h2 h3
        | super1 a h1 h2 h3 h4 => exact absurd ⟨.inl h1, fun _ => h2⟩ hb1
        | leaf h => exfalso; simp only [List.mem_cons, List.not_mem_nil, or_false] at h; omega
        | one a h1 h2 h3 h4 => exfalso; simp only [List.mem_cons, List.not_mem_nil, or_false] at h1; omega
        | two a b h1 h2 h3 h4 h5 => exfalso; simp only [List.mem_cons, List.not_mem_nil, or_false] at h1; omega
        | ocomp l' l'' f l1 l2 h1 => omega
        | _ => omega
      · have hk : (c.E i).kind ∈ [(1 : Int), 2, 3, 4, 5, 6, 7, 8, 26, 27, 28] := by
          simp only [List.mem_cons, List.not_mem_nil, or_false]
          by_cases h : (c.E i).kind = 10 ∨ (c.E i).kind = 11 ∨ (c.E i).kind = 15 ∨ (c.E i).kind = 18 ∨ (c.E i).kind = 19 ∨ (c.E i).kind = 20 ∨ (c.E i).kind = 21 ∨ (c.E i).kind = 22 ∨ (c.E i).kind = 23 ∨ (c.E i).kind = 24
          · exact absurd ⟨.inr h, fun h => absurd h h9⟩ hb1
          · omega
        refine made_leaf c i w P hf hn hi hb hk ?_
        simp only [List.mem_cons, List.not_mem_nil, or_false] at hk
        cases hS i hi with
        | leaf h h2 => exact h2
        | one a h1 h2 h3 h4 => exfalso; simp only [List.mem_cons, List.not_mem_nil, or_false] at h1; omega
        | two a b h1 h2 h3 h4 h5 => exfalso; simp only [List.mem_cons, List.not_mem_nil, or_false] at h1; omega
        | ocomp l' l'' f l1 l2 h1 => omega
        | _ => omega

theorem node_zero (c : Ctx) (hf : Fit c.E c.n) : NodeTo c 0 := by
  intro i w P hi hx hs
  have := (hf.2.2 i hi).pos
  omega

/-- Every node is made. -/
theorem node_all (c : Ctx) (hf : Fit c.E c.n) (hS : ∀ i, i < c.n → Shape c.E (c.E i) (kids c.E i)) (hn : c.n ≤ 400) : ∀ N, NodeTo c N
  | 0 => node_zero c hf
  | N + 1 => node_of_made c (N + 1) hf hn (made_step c N (node_all c hf hS hn N) hf hS hn)
end Go.Proofs.Ytkpfbgeaodopoaa.fnDirect
