/-
  The walk of FnNumOver: for every two doubles the Go code returns true and turns nothing that was there.
  No condition beyond the arguments being words of doubles.
-/
import Derived.Test.YtikddahaghmklaaOverDiv
namespace Go.Proofs.Ytikddahaghmklaa.fnNumOver
open Go.RowKit Go.Proofs.Ytikddahaghmklaa.Num

theorem part_any (x y : Nat) (w : World) : Calls Try.prog 28 #[.float .f64 x, .float .f64 y] w (PartRes (overR x y) w) := by
  go_enter Try.func28, Try.ntmps28
  go_wp2_with fail
  refine (num_any _ _).mono ?_
  rintro e w1 ⟨rfl, rfl⟩
  go_wp2_with fail
  refine (num_any _ _).mono ?_
  rintro e w1 ⟨rfl, rfl⟩
  go_wp2_with fail
  refine (div_any _ _ _ x y _ ⟨by go_simp, by go_simp⟩ (by go_simp) (by go_simp)).mono ?_
  intro e w1 h
  cases hr : overR x y with
  | none =>
    rw [hr] at h
    obtain ⟨v, rfl, hb⟩ := h
    have HR := Lib.hid hr
    clear hr
    go_wp2_with fail
    refine (numOf_err _ _).mono ?_
    rintro e w2 ⟨rfl, rfl⟩
    go_wp2
    go_ret2
    rw [HR.out]
    exact ⟨v, rfl, Below.trans (by go_grown) (hb.mono (by simp; omega))⟩
  | some r =>
    rw [hr] at h
    obtain ⟨b, rfl, hc, hb⟩ := h
    have HR := Lib.hid hr
    have HC := Lib.hid hc
    clear hr hc
    go_wp2_with fail
    refine (numOf_ok _ r _ HC.out).mono ?_
    rintro e w2 ⟨rfl, rfl⟩
    go_wp2
    go_ret2
    rw [HR.out]
    exact ⟨rfl, Below.trans (by go_grown) (hb.mono (by simp; omega))⟩

theorem over_any (x y : Nat) (w : World) : Calls Try.prog 15 #[.float .f64 x, .float .f64 y] w (DoorTold (overR x y) w) := by
  go_enter Try.func15, Try.ntmps15
  go_wp2_with fail
  refine (part_any _ _ _).mono ?_
  intro e w1 h
  cases hr : overR x y with
  | none =>
    rw [hr] at h
    obtain ⟨v, rfl, hb⟩ := h
    have HR := Lib.hid hr
    clear hr
    go_wp2_with fail
    refine (number_err _ _ _).mono ?_
    rintro e w2 ⟨rfl, rfl⟩
    go_wp2
    go_ret2
    rw [HR.out]
    exact ⟨rfl, hb⟩
  | some r =>
    rw [hr] at h
    obtain ⟨rfl, hb⟩ := h
    have HR := Lib.hid hr
    clear hr
    go_wp2_with fail
    refine (number_ok _ _).mono ?_
    rintro e w2 ⟨rfl, rfl⟩
    go_wp2
    go_ret2
    rw [HR.out]
    exact ⟨rfl, hb⟩

theorem wf_lt {x : Nat} (h : (Lit.float .f64 x).wf = true) : x < 2 ^ 64 := by simpa [Lit.wf] using h

/-- laws.is: what was told is the number that was wanted; or nothing, if that is none. -/
theorem is_not (r : Nat) (w : World) (hr : r < 2 ^ 64) (hn : Fl.numB r = false) : Calls Try.prog 16 #[.float .f64 0, .bool false, .float .f64 r] w
    fun e w' => e = .returned (.bool true) ∧ w = w' := by
  have HX := Lib.hid hr
  have HN := Lib.hid hn
  clear hr hn
  go_enter Try.func16, Try.ntmps16
  go_wp2_with fail
  refine (finite1_any _ _ HX.out).mono ?_
  rintro e w1 ⟨rfl, rfl⟩
  rw [HN.out]
  go_wp2
  go_ret
  exact ⟨rfl, rfl⟩

theorem is_num (r : Nat) (w : World) (hr : r < 2 ^ 64) (hn : Fl.numB r = true) : Calls Try.prog 16 #[.float .f64 r, .bool true, .float .f64 r] w
    fun e w' => e = .returned (.bool true) ∧ w = w' := by
  have heq : (FloatKind.f64.format.order r r == some .eq) = true := by
    have := Fl.nan_num ((Fl.numB_iff r).1 hn)
    have hd : FloatKind.f64.format = Ieee.double := rfl
    rw [hd]
    simpa [bne] using this
  have HX := Lib.hid hr
  have HN := Lib.hid hn
  clear hr hn
  go_enter Try.func16, Try.ntmps16
  go_wp2_with fail
  refine (finite1_any _ _ HX.out).mono ?_
  rintro e w1 ⟨rfl, rfl⟩
  rw [HN.out]
  go_wp2
  go_ret
  exact ⟨rfl, rfl⟩

theorem order_zero {y : Nat} (hy : Fl.isNum y) (h : (FloatKind.f64.format.order y 0 == some .eq) = false) : ∃ (s : Bool) (m : Nat) (e : Int), Ieee.double.read y = .number s m e ∧ m ≠ 0 := by
  obtain ⟨s, m, e, hr⟩ := hy
  refine ⟨s, m, e, hr, ?_⟩
  rintro rfl
  have h0 : Fl.isNum 0 := Fl.zero_is.num
  have hd : FloatKind.f64.format = Ieee.double := rfl
  rw [hd, Fl.order_fv ⟨s, 0, e, hr⟩ h0, Fl.zero_is.fv] at h
  have : Fl.fv y = 0 := by unfold Fl.fv; rw [hr]; unfold Fl.val; simp
  rw [this] at h
  simp [Rat.lt_irrefl] at h

theorem div_some {x y : Nat} (hx : Fl.isNum x) (hy : Fl.isNum y) (h : (FloatKind.f64.format.order y 0 == some .eq) = false) : ∃ r, Ieee.double.div x y = some r ∧ r < 2 ^ 64 := by
  obtain ⟨t, n, j, hr, hn⟩ := order_zero hy h
  obtain ⟨s, m, i, hx⟩ := hx
  have : ∃ r, Ieee.double.div x y = some r := by
    unfold Ieee.Format.div
    rw [hx, hr]
    unfold Ieee.Datum.quotient
    simp only [if_neg hn, Option.map_some]
    exact ⟨_, rfl⟩
  obtain ⟨r, hr⟩ := this
  exact ⟨r, hr, Ieee.Format.div_lt _ hr⟩

theorem walk (a0 : Nat) (a1 : Nat) (w : World) (w0 : (Lit.float .f64 a0).wf = true) (w1 : (Lit.float .f64 a1).wf = true) :
    Calls Try.prog 6 #[.float .f64 a0, .float .f64 a1] w fun e w' => e = .returned (.bool true) ∧ Below w.heap.size w w' := by
  have l0 := wf_lt w0
  have l1 := wf_lt w1
  clear w0 w1
  have HX : Hid (∀ i, i < 2 → [a0, a1].getD i 0 < 2 ^ 64) := Lib.hid (by
    intro i hi
    rcases (by omega : i = 0 ∨ i = 1) with rfl | rfl
    · exact l0
    · exact l1)
  clear l0 l1
  have hcase : ([a0, a1].all Fl.numB = false) ∨ (([a0, a1].all Fl.numB = true) ∧ Fl.isNum a0 ∧ Fl.isNum a1) := by
    cases h : [a0, a1].all Fl.numB
    · exact .inl rfl
    · simp only [List.all_cons, List.all_nil, Bool.and_eq_true] at h
      exact .inr ⟨rfl, (Fl.numB_iff _).1 h.1, (Fl.numB_iff _).1 h.2.1⟩
  rcases hcase with h | ⟨h, n0, n1⟩
  · have H := Lib.hid h
    clear h
    go_enter Try.func6, Try.ntmps6
    go_wp2_with fail
    refine (over_any _ _ _).mono ?_
    rintro e w1 ⟨rfl, hb⟩
    have hz := hb.size
    go_wp2_with fail
    refine (finite_any _ 2 [a0, a1] _ rfl (by omega) HX.out ?_).mono ?_
    · intro i hi
      rcases (by omega : i = 0 ∨ i = 1) with rfl | rfl <;> simp
    rintro e w2 ⟨rfl, rfl⟩
    rw [H.out]
    go_wp2
    go_ret
    exact ⟨rfl, by go_grown⟩
  · have H := Lib.hid h
    clear h
    cases h0 : FloatKind.f64.format.order a1 0 == some .eq
    · obtain ⟨r, hr, hlt⟩ := div_some n0 n1 h0
      have hop := fun w => run_float_arith (P := Try.prog) w .quo 30 .f64 a0 a1 r hr
      cases hn : Fl.numB r
      · have hov : overR a0 a1 = none := by unfold overR; rw [if_neg (by rw [h0]; decide), hr]; simp [hn]
        have HO := Lib.hid hov
        have HL := Lib.hid hlt
        have HN := Lib.hid hn
        clear hr hov n0 n1 hlt hn
        go_enter Try.func6, Try.ntmps6
        go_wp2_with fail
        refine (over_any _ _ _).mono ?_
        rintro e w1 ⟨rfl, hb⟩
        have hz := hb.size
        rw [HO.out]
        go_wp2_with fail
        refine (finite_any _ 2 [a0, a1] _ rfl (by omega) HX.out ?_).mono ?_
        · intro i hi
          rcases (by omega : i = 0 ∨ i = 1) with rfl | rfl <;> simp
        rintro e w2 ⟨rfl, rfl⟩
        rw [H.out]
        go_wp2_with fail
        refine (is_not r _ HL.out HN.out).mono ?_
        rintro e w2 ⟨rfl, rfl⟩
        go_wp2
        go_ret
        exact ⟨rfl, by go_grown⟩
      · have hov : overR a0 a1 = some r := by unfold overR; rw [if_neg (by rw [h0]; decide), hr]; simp [hn]
        have HO := Lib.hid hov
        have HL := Lib.hid hlt
        have HN := Lib.hid hn
        clear hr hov n0 n1 hlt hn
        go_enter Try.func6, Try.ntmps6
        go_wp2_with fail
        refine (over_any _ _ _).mono ?_
        rintro e w1 ⟨rfl, hb⟩
        have hz := hb.size
        rw [HO.out]
        go_wp2_with fail
        refine (finite_any _ 2 [a0, a1] _ rfl (by omega) HX.out ?_).mono ?_
        · intro i hi
          rcases (by omega : i = 0 ∨ i = 1) with rfl | rfl <;> simp
        rintro e w2 ⟨rfl, rfl⟩
        rw [H.out]
        go_wp2_with fail
        refine (is_num r _ HL.out HN.out).mono ?_
        rintro e w2 ⟨rfl, rfl⟩
        go_wp2
        go_ret
        exact ⟨rfl, by go_grown⟩
    · have hov : overR a0 a1 = none := by unfold overR; rw [if_pos h0]
      have HO := Lib.hid hov
      clear hov n0 n1
      go_enter Try.func6, Try.ntmps6
      go_wp2_with fail
      refine (over_any _ _ _).mono ?_
      rintro e w1 ⟨rfl, hb⟩
      have hz := hb.size
      rw [HO.out]
      go_wp2_with fail
      refine (finite_any _ 2 [a0, a1] _ rfl (by omega) HX.out ?_).mono ?_
      · intro i hi
        rcases (by omega : i = 0 ∨ i = 1) with rfl | rfl <;> simp
      rintro e w2 ⟨rfl, rfl⟩
      rw [H.out]
      go_wp2
      go_ret
      exact ⟨rfl, by go_grown⟩
end Go.Proofs.Ytikddahaghmklaa.fnNumOver
