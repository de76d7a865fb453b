/-
  Plain facts on doubles that are whole numbers: cut towards 0, compared, the greatest ones.
  No program in sight; no condition beyond those that each theorem names.
-/
import Derived.Test.YtikddahaghmklaaFl
namespace Fl
open Ieee

theorem cut_zero (neg : Bool) (k drop : Nat) : Toward.zero.cut neg (k * 2 ^ drop) drop = k := by
  unfold Toward.cut
  simp only [Nat.one_shiftLeft, Bool.toNat_false, Nat.add_zero]
  rcases Nat.eq_zero_or_pos k with c | c
  · subst c; simp
  · have h1 : 2 ^ drop ≤ k * 2 ^ drop := Nat.le_mul_of_pos_left _ c
    have h2 : drop ≤ (k * 2 ^ drop).log2 := (Nat.le_log2 (by have := Nat.two_pow_pos drop; omega)).2 h1
    rw [Nat.min_eq_left (by omega), Nat.mul_div_cancel _ (Nat.two_pow_pos _)]

/-- A whole number, cut towards 0, is itself. -/
theorem toInt_is {x : Nat} {n : Int} (h : Is x (n : Rat)) : (double.read x).toInt .zero = some n := by
  obtain ⟨s, m, e, hr, hv, _⟩ := h
  rw [hr]
  have hN : (m : Rat) * pw e = ((n.natAbs : Nat) : Rat) ∧ (m ≠ 0 → (s = true ↔ n < 0)) := by
    have h0 : (0 : Rat) ≤ (m : Rat) * pw e := Rat.mul_nonneg Rat.natCast_nonneg (pw_nonneg e)
    have hc : ((0 : Int) : Rat) = 0 := rfl
    rw [signed_abs]
    unfold val at hv
    cases s
    · simp only [Bool.false_eq_true, ↓reduceIte] at hv
      have hn : 0 ≤ n := by rw [← Rat.intCast_le_intCast, hc, ← hv]; exact h0
      rw [if_neg (by omega)]
      exact ⟨hv, fun _ => by simp; omega⟩
    · simp only [↓reduceIte] at hv
      have hn : n ≤ 0 := by rw [← Rat.intCast_le_intCast, hc, ← hv]; grind
      refine ⟨?_, fun hm => ?_⟩
      · split
        · grind
        · have : n = 0 := by omega
          subst this
          have : ((0 : Int) : Rat) = 0 := rfl
          grind
      · simp only [true_iff]
        have hp : (0 : Rat) < (m : Rat) * pw e := Rat.mul_pos (Rat.natCast_pos.2 (Nat.pos_of_ne_zero hm)) (pw_pos e)
        rcases Int.lt_or_eq_of_le hn with c | c
        · exact c
        · subst c; rw [hc] at hv; grind
  obtain ⟨hN, hs⟩ := hN
  have hcut : Toward.zero.cut s (m <<< e.toNat) (-e).toNat = n.natAbs := by
    by_cases c : 0 ≤ e
    · rw [show (-e).toNat = 0 by omega, Nat.shiftLeft_eq]
      have h1 := cut_zero s (m * 2 ^ e.toNat) 0
      rw [Nat.pow_zero, Nat.mul_one] at h1
      rw [h1]
      have h2 : ((m * 2 ^ e.toNat : Nat) : Rat) = ((n.natAbs : Nat) : Rat) := by
        rw [← hN, Rat.natCast_mul, ← pw_nat]; congr 2; omega
      exact Rat.natCast_inj.1 h2
    · rw [show e.toNat = 0 by omega, Nat.shiftLeft_zero]
      have h2 : ((n.natAbs * 2 ^ (-e).toNat : Nat) : Rat) = ((m : Nat) : Rat) := by
        rw [Rat.natCast_mul, ← pw_nat, ← hN, Rat.mul_assoc, ← pw_add, show e + ((-e).toNat : Int) = 0 by omega, pw_zero, Rat.mul_one]
      have h3 := Rat.natCast_inj.1 h2
      rw [← h3]
      exact cut_zero s _ _
  unfold Datum.toInt Datum.integral
  simp only [hcut]
  unfold signed
  rw [Nat.shiftLeft_zero]
  by_cases hm : m = 0
  · have : n = 0 := by
      subst hm
      have h2 : ((0 : Nat) : Rat) = ((n.natAbs : Nat) : Rat) := by rw [← hN]; simp
      have := Rat.natCast_inj.1 h2
      omega
    subst this
    cases s <;> rfl
  · have := hs hm
    cases s
    · simp at this ⊢; omega
    · simp at this ⊢; omega

theorem order_int {x y : Nat} {a b : Int} (hx : Is x (a : Rat)) (hy : Is y (b : Rat)) : double.order x y = some (if a < b then .lt else if a = b then .eq else .gt) := by
  rw [order_fv hx.num hy.num, hx.fv, hy.fv]
  simp only [Rat.intCast_lt_intCast, Rat.intCast_inj]

theorem maxSafe_is : Is 4845873199050653695 ((9007199254740991 : Int) : Rat) := by
  have h : ofI 9007199254740991 = 4845873199050653695 := by decide +kernel
  rw [← h]; exact ofI_is _ (by decide)
theorem minSafe_is : Is 14069245235905429503 ((-9007199254740991 : Int) : Rat) := by
  have h : ofI (-9007199254740991) = 14069245235905429503 := by decide +kernel
  rw [← h]; exact ofI_is _ (by decide)
theorem zeroI_is : Is 0 ((0 : Int) : Rat) := by
  have h : ofI 0 = 0 := by decide +kernel
  have := ofI_is 0 (by decide)
  rwa [h] at this
theorem twoI_is : Is 4611686018427387904 ((2 : Int) : Rat) := by
  have h : ofI 2 = 4611686018427387904 := by decide +kernel
  rw [← h]; exact ofI_is _ (by decide)

end Fl
