/-
  The walk of FnNumOrder: for every three doubles the Go code returns true and turns nothing that was there.
  No condition beyond the arguments being words of doubles.
-/
import Derived.Test.YtikddahaghmklaaNumParts
namespace Go.Proofs.Ytikddahaghmklaa.fnNumOrder
open Go.RowKit Go.Proofs.Ytikddahaghmklaa.Num

theorem wf_lt {x : Nat} (h : (Lit.float .f64 x).wf = true) : x < 2 ^ 64 := by simpa [Lit.wf] using h

theorem walk (a0 : Nat) (a1 : Nat) (a2 : Nat) (w : World) (w0 : (Lit.float .f64 a0).wf = true) (w1 : (Lit.float .f64 a1).wf = true) (w2 : (Lit.float .f64 a2).wf = true) :
    Calls Try.prog 5 #[.float .f64 a0, .float .f64 a1, .float .f64 a2] w fun e w' => e = .returned (.bool true) ∧ Below w.heap.size w w' := by
  have l0 := wf_lt w0
  have l1 := wf_lt w1
  have l2 := wf_lt w2
  clear w0 w1 w2
  have HX : Hid (∀ i, i < 3 → [a0, a1, a2].getD i 0 < 2 ^ 64) := Lib.hid (by
    intro i hi
    rcases (by omega : i = 0 ∨ i = 1 ∨ i = 2) with rfl | rfl | rfl
    · exact l0
    · exact l1
    · exact l2)
  clear l0 l1 l2
  have hcase : ([a0, a1, a2].all Fl.numB = false) ∨ (([a0, a1, a2].all Fl.numB = true) ∧ Fl.isNum a0 ∧ Fl.isNum a1 ∧ Fl.isNum a2) := by
    cases h : [a0, a1, a2].all Fl.numB
    · exact .inl rfl
    · simp only [List.all_cons, List.all_nil, Bool.and_eq_true] at h
      exact .inr ⟨rfl, (Fl.numB_iff _).1 h.1, (Fl.numB_iff _).1 h.2.1, (Fl.numB_iff _).1 h.2.2.1⟩
  rcases hcase with h | ⟨h, n0, n1, n2⟩
  · have H := Lib.hid h
    clear h
    go_enter Try.func5, Try.ntmps5
    go_wp2_with fail
    refine (cmp_any _ _ _).mono ?_
    rintro e w1 ⟨rfl, rfl⟩
    go_wp2_with fail
    refine (cmp_any _ _ _).mono ?_
    rintro e w1 ⟨rfl, rfl⟩
    go_wp2_with fail
    refine (cmp_any _ _ _).mono ?_
    rintro e w1 ⟨rfl, rfl⟩
    go_wp2_with fail
    refine (finite_any _ 3 [a0, a1, a2] _ rfl (by omega) HX.out ?_).mono ?_
    · intro i hi
      rcases (by omega : i = 0 ∨ i = 1 ∨ i = 2) with rfl | rfl | rfl <;> simp
    rintro e w1 ⟨rfl, rfl⟩
    rw [H.out]
    go_wp2
    go_ret
    exact ⟨rfl, by go_grown⟩
  · have hl := Fl.cmp_law n0 n1 n2
    have H := Lib.hid h
    have hne : (FloatKind.f64.format.order a0 a1 != some .eq) = decide (Fl.cmpF a0 a1 ≠ 0) := by
      have hd : FloatKind.f64.format = Ieee.double := rfl
      rw [hd]
      have h3 := hl.2.2
      by_cases c : Fl.cmpF a0 a1 = 0
      · rw [h3.1 c]; simp [c]
      · have : Ieee.double.order a0 a1 ≠ some .eq := fun hh => c (h3.2 hh)
        simp [this, c]
    have HNE := Lib.hid hne
    have hlt : ∀ x y, -1 ≤ Fl.cmpF x y ∧ Fl.cmpF x y ≤ 1 := by
      intro x y; unfold Fl.cmpF; split
      · omega
      · split <;> omega
    have b1 := hlt a0 a1
    have b2 := hlt a1 a2
    have b3 := hlt a0 a2
    have b4 := hlt a1 a0
    have e1 := hl.1
    have e2 := hl.2.1
    clear h hl hne hlt n0 n1 n2
    have HE2 := Lib.hid e2
    clear e2
    go_enter Try.func5, Try.ntmps5
    go_wp2_with fail
    refine (cmp_any _ _ _).mono ?_
    rintro e w1 ⟨rfl, rfl⟩
    go_wp2_with fail
    refine (cmp_any _ _ _).mono ?_
    rintro e w1 ⟨rfl, rfl⟩
    go_wp2_with fail
    refine (cmp_any _ _ _).mono ?_
    rintro e w1 ⟨rfl, rfl⟩
    go_wp2_with fail
    refine (finite_any _ 3 [a0, a1, a2] _ rfl (by omega) HX.out ?_).mono ?_
    · intro i hi
      rcases (by omega : i = 0 ∨ i = 1 ∨ i = 2) with rfl | rfl | rfl <;> simp
    rintro e w1 ⟨rfl, rfl⟩
    rw [H.out]
    have t1 : (Fl.cmpF a0 a1 == -Fl.cmpF a1 a0) = true := by rw [← HE2.out]; simp
    by_cases hz : Fl.cmpF a0 a1 = 0
    · have t2 : (Fl.cmpF a0 a1 != 0) = false := by simp [hz]
      have t3 : (FloatKind.f64.format.order a0 a1 != some .eq) = false := by rw [HNE.out]; simp [hz]
      have T1 := Lib.hid t1
      clear hz t1
      go_wp2_with fail
      all_goals
        refine (cmp_any _ _ _).mono ?_
        rintro e w1 ⟨rfl, rfl⟩
        have t1 := T1.out
        clear T1
        go_wp2
        go_ret
        exact ⟨rfl, by go_grown⟩
    · have t2 : (Fl.cmpF a0 a1 != 0) = true := by simp [hz]
      have t3 : (FloatKind.f64.format.order a0 a1 != some .eq) = true := by rw [HNE.out]; simp [hz]
      have T1 := Lib.hid t1
      clear hz t1
      go_wp2_with fail
      all_goals
        refine (cmp_any _ _ _).mono ?_
        rintro e w1 ⟨rfl, rfl⟩
        have t1 := T1.out
        clear T1
        go_wp2
        go_ret
        exact ⟨rfl, by go_grown⟩
end Go.Proofs.Ytikddahaghmklaa.fnNumOrder
