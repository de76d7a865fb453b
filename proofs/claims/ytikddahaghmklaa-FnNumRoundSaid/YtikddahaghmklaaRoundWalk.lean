/-
  The walk of FnNumRound: for every double the Go code returns true and turns nothing that was there.
  No condition beyond the argument being a word of a double.
-/
import Derived.Test.YtikddahaghmklaaRoundParts
namespace Go.Proofs.Ytikddahaghmklaa.fnNumRound
open Go.RowKit Go.Proofs.Ytikddahaghmklaa.Num

theorem wf_lt {x : Nat} (h : (Lit.float .f64 x).wf = true) : x < 2 ^ 64 := by simpa [Lit.wf] using h

theorem trunc_any (x : Nat) (w : World) (hx : Fl.isNum x) : Calls Try.prog 43 #[.float .f64 x] w fun e w' => e = .returned (.float .f64 (Ieee.double.write ((Ieee.double.read x).integral .zero))) ∧ w = w' := by
  have hr := fun w => run_trunc x w hx
  clear hx
  generalize Ieee.double.write ((Ieee.double.read x).integral .zero) = t at *
  go_enter Try.func43, Try.ntmps43
  go_wp2
  go_ret
  exact ⟨rfl, rfl⟩

/-- spec.Whole of a whole number of at most 2 to the power of 52. -/
theorem whole_any (x : Nat) (N : Int) (w : World) (hI : Fl.Is x (N : Rat)) (hN : N.natAbs ≤ 2 ^ 52) : Calls Try.prog 20 #[.float .f64 x] w fun e w' => e = .returned (.tuple #[.int .i64 N, .bool true]) ∧ w = w' := by
  have hd : FloatKind.f64.format = Ieee.double := rfl
  have h1 : (FloatKind.f64.format.order x 14069245235905429504 == some .gt) = true := by
    rw [hd, Fl.order_int hI Fl.m53_is, if_neg (by omega), if_neg (by omega)]; rfl
  have h2 : (FloatKind.f64.format.order x 4845873199050653696 == some .lt) = true := by
    rw [hd, Fl.order_int hI Fl.p53_is, if_pos (by omega)]; rfl
  have h3 : (FloatKind.f64.format.order x (Ieee.double.write ((Ieee.double.read x).integral .zero)) != some .eq) = false := by
    rw [hd, Fl.order_int hI (Fl.trunc_is hI (by omega))]; simp
  have hcv : floatToIntVal .f64 x .i64 = some N := by
    have h := Fl.toInt_is hI
    unfold floatToIntVal
    have : (FloatKind.f64.decode x).toInt .zero = some N := h
    rw [this]
    simp [IntKind.min, IntKind.max, IntKind.signed, IntKind.bits]
    omega
  have hc := fun w => run_convert_float_int (P := Try.prog) w 30 2 .f64 .i64 x N (by rw [Try.underlying30]; rfl) Try.underlying2 hcv
  have HT := Lib.hid (fun w => trunc_any x w hI.num)
  clear hd hcv hI hN
  generalize Ieee.double.write ((Ieee.double.read x).integral .zero) = t at *
  go_enter Try.func20, Try.ntmps20
  go_wp2_with (first | (go_at_call 43; refine (HT.out _).mono ?_; rintro e w1 ⟨rfl, rfl⟩) | go_in)
  go_ret2
  exact ⟨rfl, rfl⟩

theorem walk (a0 : Nat) (w : World) (w0 : (Lit.float .f64 a0).wf = true) :
    Calls Try.prog 8 #[.float .f64 a0] w fun e w' => e = .returned (.bool true) ∧ Below w.heap.size w w' := by
  have l0 := wf_lt w0
  clear w0
  have HX : Hid (∀ i, i < 1 → [a0].getD i 0 < 2 ^ 64) := Lib.hid (by
    intro i hi
    obtain rfl : i = 0 := by omega
    exact l0)
  have HL := Lib.hid l0
  have hd : FloatKind.f64.format = Ieee.double := rfl
  cases hn : Fl.numB a0
  · have H : Hid ([a0].all Fl.numB = false) := Lib.hid (by simp [hn])
    clear hn hd l0
    go_enter Try.func8, Try.ntmps8
    go_wp2_with fail
    refine (door_any _ _ HL.out).mono ?_
    rintro e w1 ⟨rfl, hb⟩
    have hz := hb.size
    go_wp2_with fail
    refine (finite_any _ 1 [a0] _ rfl (by omega) HX.out ?_).mono ?_
    · intro i hi
      obtain rfl : i = 0 := by omega
      simp
    rintro e w2 ⟨rfl, rfl⟩
    rw [H.out]
    go_wp2
    go_ret
    exact ⟨rfl, by go_grown⟩
  · have H : Hid ([a0].all Fl.numB = true) := Lib.hid (by simp [hn])
    have hnum := (Fl.numB_iff a0).1 hn
    by_cases hr : a0 % 2 ^ 63 < 1075 * 2 ^ 52
    · have hge : (FloatKind.f64.format.order (a0 % 2 ^ 63) 4841369599423283200 == some .gt || FloatKind.f64.format.order (a0 % 2 ^ 63) 4841369599423283200 == some .eq) = false := by rw [hd]; exact Fl.small_52 hr
      obtain ⟨N, hN, hI, _, q1, q2⟩ := Fl.round_val a0 l0 hr
      obtain ⟨d, hsub, hle⟩ := Fl.round_rest hI hnum q1 q2
      have HR : Hid (roundR a0 = some (Fl.rndW a0)) := Lib.hid (by unfold roundR; rw [(Fl.numB_iff _).2 hI.num]; rfl)
      have HW := Lib.hid (fun w => whole_any (Fl.rndW a0) N w hI hN)
      have HD := Lib.hid (Ieee.Format.sub_lt _ hsub)
      have HLE : Hid ((FloatKind.f64.format.order (d % 2 ^ 63) 4602678819172646912 == some .lt || FloatKind.f64.format.order (d % 2 ^ 63) 4602678819172646912 == some .eq) = true) := Lib.hid hle
      have hop := fun w => run_float_arith (P := Try.prog) w .sub 30 .f64 _ _ d hsub
      clear hn hd l0 hnum hr hI hN q1 q2 hsub hle
      generalize Fl.rndW a0 = out at *
      go_enter Try.func8, Try.ntmps8
      go_wp2_with fail
      refine (door_any _ _ HL.out).mono ?_
      rw [HR.out]
      rintro e w1 ⟨rfl, hb⟩
      have hz := hb.size
      go_wp2_with fail
      refine (finite_any _ 1 [a0] _ rfl (by omega) HX.out ?_).mono ?_
      · intro i hi
        obtain rfl : i = 0 := by omega
        simp
      rintro e w2 ⟨rfl, rfl⟩
      rw [H.out]
      go_wp2_with fail
      refine (abs_any _ _ HL.out).mono ?_
      rintro e w2 ⟨rfl, rfl⟩
      go_wp2_with fail
      refine (HW.out _).mono ?_
      rintro e w2 ⟨rfl, rfl⟩
      go_wp2_with fail
      refine (abs_any _ _ HD.out).mono ?_
      rintro e w2 ⟨rfl, rfl⟩
      have hle := HLE.out
      go_wp2
      go_ret
      exact ⟨rfl, by go_grown⟩
    · have hge : (FloatKind.f64.format.order (a0 % 2 ^ 63) 4841369599423283200 == some .gt || FloatKind.f64.format.order (a0 % 2 ^ 63) 4841369599423283200 == some .eq) = true := by rw [hd]; exact Fl.big_52 hnum hr
      clear hn hd l0 hnum hr
      go_enter Try.func8, Try.ntmps8
      go_wp2_with fail
      refine (door_any _ _ HL.out).mono ?_
      rintro e w1 ⟨rfl, hb⟩
      have hz := hb.size
      go_wp2_with fail
      refine (finite_any _ 1 [a0] _ rfl (by omega) HX.out ?_).mono ?_
      · intro i hi
        obtain rfl : i = 0 := by omega
        simp
      rintro e w2 ⟨rfl, rfl⟩
      rw [H.out]
      go_wp2_with fail
      refine (abs_any _ _ HL.out).mono ?_
      rintro e w2 ⟨rfl, rfl⟩
      go_wp2
      go_ret
      exact ⟨rfl, by go_grown⟩
end Go.Proofs.Ytikddahaghmklaa.fnNumRound
