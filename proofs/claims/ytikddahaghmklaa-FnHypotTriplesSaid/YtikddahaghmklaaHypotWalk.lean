/-
  The walk of FnHypotTriples: for every two numbers the Go code returns true and turns nothing that was there.
  No condition.
-/
import Derived.Test.YtikddahaghmklaaHypotParts
namespace Go.Proofs.Ytikddahaghmklaa.fnHypotTriples
open Go.RowKit Go.Proofs.Ytikddahaghmklaa.Num

theorem ofI_eq (n : Int) : floatOfInt .f64 n = Fl.ofI n := rfl
theorem two_eq : Fl.ofI 2 = 4611686018427387904 := by decide +kernel

theorem hyp_lt {p q n : Nat} (h : Fl.hyp p q = some n) : n < 2 ^ 64 := by
  have key : ∀ big small, Fl.hypOf big small = some n → n < 2 ^ 64 := by
    intro big small hh
    obtain ⟨r, rr, t, u, _, _, _, _, h5⟩ := hypOf_steps hh
    exact Ieee.Format.mul_lt _ h5
  unfold Fl.hyp at h
  split at h
  · cases h; decide
  · split at h
    · exact key _ _ h
    · exact key _ _ h

theorem walk (a0 : Int) (a1 : Int) (w : World) (w0 : (Lit.int .u16 a0).wf = true) (w1 : (Lit.int .u16 a1).wf = true) :
    Calls Try.prog 9 #[.int .u16 a0, .int .u16 a1] w fun e w' => e = .returned (.bool true) ∧ Below w.heap.size w w' := by
  obtain ⟨h0, h1⟩ := bounds_u16 w0
  obtain ⟨h2, h3⟩ := bounds_u16 w1
  clear w0 w1
  obtain ⟨u, rfl⟩ := Int.eq_ofNat_of_zero_le h0
  obtain ⟨v, rfl⟩ := Int.eq_ofNat_of_zero_le h2
  obtain ⟨aa, bb, W, P, a2, Q, n, d, R, e1, e2, e3, e4, e5, e6, nP, nQ, eh, nn, e8, e9, nd, ho⟩ := Fl.triples u v (by omega) (by omega)
  rw [two_eq, ← ofI_eq] at e5
  rw [← ofI_eq] at e1 e2 e6
  have ln : n < 2 ^ 64 := hyp_lt eh
  have ld : d < 2 ^ 64 := Ieee.Format.sub_lt _ e8
  have hle : (FloatKind.f64.format.order (d % 2 ^ 63) R == some .lt || FloatKind.f64.format.order (d % 2 ^ 63) R == some .eq) = true := by
    have hd : FloatKind.f64.format = Ieee.double := rfl
    rw [hd]
    rcases ho with h | h <;> rw [h] <;> rfl
  have HD := Lib.hid (fun w => door_any P Q n w nP nQ eh ((Fl.numB_iff n).2 nn) ln)
  have HLD := Lib.hid ld
  have o1 := fun w => run_float_arith (P := Try.prog) w .mul 30 .f64 _ _ aa e1
  have o2 := fun w => run_float_arith (P := Try.prog) w .mul 30 .f64 _ _ bb e2
  have o3 := fun w => run_float_arith (P := Try.prog) w .add 30 .f64 _ _ W e3
  have o4 := fun w => run_float_arith (P := Try.prog) w .sub 30 .f64 _ _ P e4
  have o5 := fun w => run_float_arith (P := Try.prog) w .mul 30 .f64 _ _ a2 e5
  have o6 := fun w => run_float_arith (P := Try.prog) w .mul 30 .f64 _ _ Q e6
  have o8 := fun w => run_float_arith (P := Try.prog) w .sub 30 .f64 _ _ d e8
  have o9 := fun w => run_float_arith (P := Try.prog) w .mul 30 .f64 _ _ R e9
  clear e1 e2 e3 e4 e5 e6 nP nQ eh nn e8 e9 nd ho ln ld
  go_enter Try.func9, Try.ntmps9
  go_wp2_with fail
  refine (HD.out _).mono ?_
  rintro e w1 ⟨rfl, hb⟩
  go_wp2_with fail
  refine (abs_any _ _ HLD.out).mono ?_
  rintro e w2 ⟨rfl, rfl⟩
  go_wp2
  go_ret
  exact ⟨rfl, hb⟩
end Go.Proofs.Ytikddahaghmklaa.fnHypotTriples
