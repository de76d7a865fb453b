/-
  The walk of FnNumShiftL: for every two numbers the Go code returns true and turns nothing that was there.
  No condition.
-/
import Derived.Test.YtikddahaghmklaaShiftParts
import Derived.Deep.LoopGhost
namespace Go.Proofs.Ytikddahaghmklaa.fnNumShiftL
open Go.RowKit Go.Proofs.Ytikddahaghmklaa.Num

theorem part_any (X Y : Nat) (x y : Int) (w : World) (F : Fits X Y x y) : Calls Try.prog 29 #[.float .f64 X, .float .f64 Y] w (PartRes (some (floatOfInt .f64 (x * 2 ^ y.toNat))) w) := by
  have HF := Lib.hid F
  clear F
  go_enter Try.func29, Try.ntmps29
  go_wp2_with fail
  refine (make_any _).mono ?_
  rintro e w1 ⟨rfl, rfl⟩
  go_wp2_with fail
  refine (num_any _ _).mono ?_
  rintro e w1 ⟨rfl, rfl⟩
  go_wp2_with fail
  refine (num_any _ _).mono ?_
  rintro e w1 ⟨rfl, rfl⟩
  go_wp2_with fail
  refine (lift_any _ _ _ _ _ X Y x y _ HF.out (by go_simp) (by go_simp) (by go_simp) (by go_simp)).mono ?_
  rintro e w1 ⟨b, rfl, hc, hb⟩
  have HC := Lib.hid hc
  clear hc
  go_wp2_with fail
  refine (numOf_ok _ _ _ HC.out).mono ?_
  rintro e w2 ⟨rfl, rfl⟩
  go_wp2
  go_ret2
  exact ⟨rfl, Below.trans (by go_grown) (hb.mono (by simp; omega))⟩

theorem shift_any (X Y : Nat) (x y : Int) (w : World) (F : Fits X Y x y) : Calls Try.prog 17 #[.float .f64 X, .float .f64 Y] w (DoorTold (some (floatOfInt .f64 (x * 2 ^ y.toNat))) w) := by
  have HF := Lib.hid F
  clear F
  go_enter Try.func17, Try.ntmps17
  go_wp2_with fail
  refine (part_any _ _ x y _ HF.out).mono ?_
  rintro e w1 ⟨rfl, hb⟩
  go_wp2_with fail
  refine (number_ok _ _).mono ?_
  rintro e w2 ⟨rfl, rfl⟩
  go_wp2
  go_ret2
  exact ⟨rfl, hb⟩

/-- The double of a whole number, as the model makes it, has its value. -/
theorem ofInt_is (n : Int) (h : n.natAbs ≤ 2 ^ 53) : Fl.Is (floatOfInt .f64 n) ((n : Int) : Rat) := Fl.int_is n h

theorem pow_bound (x y : Int) (hx0 : 0 ≤ x) (hx1 : x < 2097152) (hy1 : y ≤ 31) (k : Nat) (hk : (k : Int) ≤ y) : 0 ≤ x * 2 ^ k ∧ x * 2 ^ k < 4503599627370496 := by
  obtain ⟨n, rfl⟩ := Int.eq_ofNat_of_zero_le hx0
  have h2 : (2 : Int) ^ k = ((2 ^ k : Nat) : Int) := by simp
  rw [h2, ← Int.natCast_mul]
  have h3 : 2 ^ k ≤ 2 ^ 31 := Nat.pow_le_pow_right (by omega) (by omega)
  have h4 : n * 2 ^ k ≤ 2097151 * 2 ^ 31 := Nat.mul_le_mul (by omega) h3
  generalize n * 2 ^ k = m at *
  omega

theorem fits (x y : Int) (hx0 : 0 ≤ x) (hx1 : x < 2097152) (hy0 : 0 ≤ y) (hy1 : y ≤ 31) : Fits (floatOfInt .f64 x) (floatOfInt .f64 y) x y := by
  have iX := ofInt_is x (by omega)
  have iY := ofInt_is y (by omega)
  have hd : FloatKind.f64.format = Ieee.double := rfl
  have hb := pow_bound x y hx0 hx1 hy1 y.toNat (by omega)
  have iR := ofInt_is (x * 2 ^ y.toNat) (by omega)
  have ti : ∀ n : Int, 0 ≤ n → n < 2097152 → floatToIntVal .f64 (floatOfInt .f64 n) .i64 = some n := by
    intro n h0 h1
    have h := Fl.toInt_is (ofInt_is n (by omega))
    unfold floatToIntVal
    have : (FloatKind.f64.decode (floatOfInt .f64 n)).toInt .zero = some n := h
    rw [this]
    simp [IntKind.min, IntKind.max, IntKind.signed, IntKind.bits]
    omega
  refine ⟨hx0, hx1, hy0, hy1, ?_, ?_, ?_, ?_, ?_, ti x hx0 hx1, ti y hy0 (by omega), (Fl.numB_iff _).2 iR.num, ?_⟩
  · rw [hd, Fl.order_int iX Fl.minSafe_is, if_neg (by omega)]; split <;> rfl
  · rw [hd, Fl.order_int iX Fl.maxSafe_is, if_pos (by omega)]; rfl
  · rw [hd, Fl.order_int iY Fl.minSafe_is, if_neg (by omega)]; split <;> rfl
  · rw [hd, Fl.order_int iY Fl.maxSafe_is, if_pos (by omega)]; rfl
  · rw [hd, Fl.order_int iY Fl.zeroI_is, if_neg (by omega)]; split <;> rfl
  · have := floatOfInt_wf .f64 (x * 2 ^ y.toNat)
    simpa [Lit.wf] using this

theorem walk (a0 : Int) (a1 : Int) (w : World) (w0 : (Lit.int .u32 a0).wf = true) (w1 : (Lit.int .u32 a1).wf = true) :
    Calls Try.prog 7 #[.int .u32 a0, .int .u32 a1] w fun e w' => e = .returned (.bool true) ∧ Below w.heap.size w w' := by
  obtain ⟨h0, h1⟩ := bounds_u32 w0
  obtain ⟨h2, h3⟩ := bounds_u32 w1
  clear w0 w1
  by_cases c0 : 2097152 ≤ a0
  · go_enter Try.func7, Try.ntmps7
    go_wp2
    go_ret
    exact ⟨rfl, Below.refl _ _⟩
  · by_cases c1 : 31 < a1
    · go_enter Try.func7, Try.ntmps7
      go_wp2
      go_ret
      exact ⟨rfl, Below.refl _ _⟩
    · have HF := Lib.hid (fits a0 a1 h0 (by omega) h2 (by omega))
      have hX : Fl.Is (floatOfInt .f64 a0) ((a0 : Int) : Rat) := ofInt_is a0 (by omega)
      have HX := Lib.hid hX
      have HB := Lib.hid (fun k hk => pow_bound a0 a1 h0 (by omega) (by omega) k hk)
      clear hX
      go_enter Try.func7, Try.ntmps7
      go_wp2_with fail
      refine (shift_any _ _ a0 a1 _ HF.out).mono ?_
      rintro e w1 ⟨rfl, hb⟩
      go_wp2
      go_loop [7, 8] (fun v i => ∃ k wd : Nat, (k : Int) ≤ a1 ∧ i = .int .u32 k ∧ v = .float .f64 wd ∧ Hid (Fl.Is wd ((a0 * 2 ^ k : Int) : Rat))) (fun _ i => (a1 - intOf i).toNat)
      case atStart => exact ⟨0, _, by omega, rfl, rfl, Lib.hid (by simpa using HX.out)⟩
      case round =>
        obtain ⟨k, wd, hk, rfl, rfl, HI⟩ := hrel
        by_cases hlt : (k : Int) < a1
        · have hbk := HB.out (k + 1) (by omega)
          have he : a0 * 2 ^ k * 2 = a0 * 2 ^ (k + 1) := by rw [Int.mul_assoc]; rfl
          obtain ⟨r, hr, hri⟩ := Fl.int_mul HI.out Fl.twoI_is (by rw [he]; omega)
          rw [he] at hri
          clear he
          have HR := Lib.hid hri
          have hop := fun w => run_float_arith (P := Try.prog) w .mul 30 .f64 wd 4611686018427387904 r hr
          clear hri hr hbk
          go_wp2
          go_round
          case rel => exact ⟨k + 1, r, by omega, by go_num, rfl, HR⟩
          case measure => simp [intOf]; omega
        · have hka : a1.toNat = k := by omega
          have hb0 := HB.out k hk
          have heq : (FloatKind.f64.format.order (floatOfInt FloatKind.f64 (a0 * 2 ^ a1.toNat)) wd == some .eq) = true := by
            have hd : FloatKind.f64.format = Ieee.double := rfl
            rw [hd, hka, Fl.order_int (ofInt_is (a0 * 2 ^ k) (by omega)) HI.out]
            simp
          clear hka hb0
          go_wp2
          go_ret
          exact ⟨rfl, by go_grown⟩
end Go.Proofs.Ytikddahaghmklaa.fnNumShiftL
