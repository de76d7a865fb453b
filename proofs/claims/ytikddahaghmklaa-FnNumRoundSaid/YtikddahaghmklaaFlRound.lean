/-
  Plain facts on the rounding of doubles to whole numbers, as math.Round does it by bits.
  No program in sight; no condition beyond those that each theorem names.
-/
import Derived.Test.YtikddahaghmklaaFlShift
namespace Fl
open Ieee

/-- What math.Round makes of a word's lower bits, and of a word. -/
def rnd (r : Nat) : Nat :=
  if r / 2 ^ 52 < 1022 then 0 else if r / 2 ^ 52 = 1022 then 1023 * 2 ^ 52
  else if r / 2 ^ 52 < 1075 then (r + 2 ^ (1074 - r / 2 ^ 52)) / 2 ^ (1075 - r / 2 ^ 52) * 2 ^ (1075 - r / 2 ^ 52) else r
def rndW (x : Nat) : Nat := x / 2 ^ 63 * 2 ^ 63 + rnd (x % 2 ^ 63)

theorem word_parts {x : Nat} (h : x < 2 ^ 64) : x = double.word (x / 2 ^ 63 == 1) (x % 2 ^ 63) := by
  unfold Format.word
  rw [signWeight_val]
  rcases (by omega : x / 2 ^ 63 = 0 ∨ x / 2 ^ 63 = 1) with c | c
  · rw [c]; simp; omega
  · rw [c]; simp; omega

theorem rndW_parts {x : Nat} (h : x < 2 ^ 64) : rndW x = double.word (x / 2 ^ 63 == 1) (rnd (x % 2 ^ 63)) := by
  unfold Format.word rndW
  rw [signWeight_val]
  rcases (by omega : x / 2 ^ 63 = 0 ∨ x / 2 ^ 63 = 1) with c | c
  · rw [c]; simp
  · rw [c]; simp

/-- The nearest multiple of 2 to the power of D, of a number between 2 to the powers of 52 and 53. -/
theorem round_mid (M D : Nat) (hD : 1 ≤ D) (hD2 : D ≤ 52) (hM : 2 ^ 52 ≤ M) (hM2 : M < 2 ^ 53) :
    ∃ K, (M + 2 ^ (D - 1)) / 2 ^ D = K ∧ 2 * (K * 2 ^ D) ≤ 2 * M + 2 ^ D ∧ 2 * M ≤ 2 * (K * 2 ^ D) + 2 ^ D ∧ 2 ^ 52 ≤ K * 2 ^ D ∧ K * 2 ^ D ≤ 2 ^ 53 := by
  refine ⟨_, rfl, ?_⟩
  obtain ⟨d, rfl⟩ : ∃ d, D = d + 1 := ⟨D - 1, by omega⟩
  have e1 : 2 ^ (d + 1) = 2 * 2 ^ d := by rw [Nat.pow_succ, Nat.mul_comm]
  have hd := Nat.div_add_mod (M + 2 ^ (d + 1 - 1)) (2 ^ (d + 1))
  have hm := Nat.mod_lt (M + 2 ^ (d + 1 - 1)) (Nat.two_pow_pos (d + 1))
  rw [Nat.add_sub_cancel] at *
  have h52 : 2 ^ 52 = 2 ^ (51 - d) * 2 ^ (d + 1) := by rw [← Nat.pow_add]; congr 1; omega
  have h53 : 2 ^ 53 = 2 ^ (52 - d) * 2 ^ (d + 1) := by rw [← Nat.pow_add]; congr 1; omega
  generalize hK : (M + 2 ^ d) / 2 ^ (d + 1) = K at *
  generalize (M + 2 ^ d) % 2 ^ (d + 1) = r at *
  have hKe : K * 2 ^ (d + 1) = 2 ^ (d + 1) * K := Nat.mul_comm _ _
  have k1 : 2 ^ (51 - d) ≤ K := by
    rw [← hK]
    refine (Nat.le_div_iff_mul_le (Nat.two_pow_pos _)).2 ?_
    rw [← h52]; omega
  have k2 : K ≤ 2 ^ (52 - d) := by
    have : K < 2 ^ (52 - d) + 1 := by
      rw [← hK]
      refine (Nat.div_lt_iff_lt_mul (Nat.two_pow_pos _)).2 ?_
      rw [Nat.add_mul, ← h53]; omega
    omega
  have k3 := Nat.mul_le_mul_right (2 ^ (d + 1)) k1
  have k4 := Nat.mul_le_mul_right (2 ^ (d + 1)) k2
  rw [← h52] at k3
  rw [← h53] at k4
  refine ⟨by omega, by omega, k3, k4⟩

theorem to_zero {X q : Rat} (h0 : 0 ≤ X) (h1 : X ≤ q) (hq : q ≤ pw (-1)) : 2 * ((0 : Nat) : Rat) ≤ 2 * X + 1 ∧ 2 * X ≤ 2 * ((0 : Nat) : Rat) + 1 := by
  have z : ((0 : Nat) : Rat) = 0 := rfl
  rw [pw_m1] at hq
  rw [z]
  constructor <;> grind

theorem to_one {X : Rat} (h1 : pw (-1) ≤ X) (h2 : X ≤ 1) : 2 * ((1 : Nat) : Rat) ≤ 2 * X + 1 ∧ 2 * X ≤ 2 * ((1 : Nat) : Rat) + 1 := by
  have z : ((1 : Nat) : Rat) = 1 := rfl
  rw [pw_m1] at h1
  rw [z]
  constructor <;> grind

theorem scaled {Q M D : Nat} {K u : Rat} (hu : 0 ≤ u) (hQ : (Q : Rat) * u = K) (hD : (D : Rat) * u = 1) (b1 : 2 * Q ≤ 2 * M + D) (b2 : 2 * M ≤ 2 * Q + D) : 2 * K ≤ 2 * ((M : Rat) * u) + 1 ∧ 2 * ((M : Rat) * u) ≤ 2 * K + 1 := by
  have two : ((2 : Nat) : Rat) = 2 := rfl
  have a1 : ((2 * Q : Nat) : Rat) ≤ ((2 * M + D : Nat) : Rat) := Rat.natCast_le_natCast.2 b1
  have a2 : ((2 * M : Nat) : Rat) ≤ ((2 * Q + D : Nat) : Rat) := Rat.natCast_le_natCast.2 b2
  have c1 := Rat.mul_le_mul_of_nonneg_right a1 hu
  have c2 := Rat.mul_le_mul_of_nonneg_right a2 hu
  rw [Rat.natCast_add, Rat.natCast_mul, Rat.natCast_mul, two] at c1 c2
  clear a1 a2 b1 b2
  generalize (Q : Rat) = q at *
  generalize (M : Rat) = m at *
  generalize (D : Rat) = d at *
  constructor <;> grind

/-- A magnitude below 2 to the power of 52, rounded: a whole number that is at most a half away. -/
theorem rnd_val (r : Nat) (hr : r < 1075 * 2 ^ 52) : ∃ K : Nat, K ≤ 2 ^ 52 ∧ (∃ m e, double.read (double.word false (rnd r)) = .number false m e ∧ (m : Rat) * pw e = (K : Rat)) ∧ (∃ m e, double.read (double.word false r) = .number false m e ∧ 2 * (K : Rat) ≤ 2 * ((m : Rat) * pw e) + 1 ∧ 2 * ((m : Rat) * pw e) ≤ 2 * (K : Rat) + 1) := by
  have hp1 := pw_m1
  by_cases c1 : r / 2 ^ 52 < 1022
  · have e1 : rnd r = 0 := by unfold rnd; rw [if_pos c1]
    rw [e1]
    refine ⟨0, by omega, ⟨0, -1074, by rw [read_word false 0 (by omega)]; rfl, by simp⟩, ?_⟩
    rw [read_word false r (by omega)]
    by_cases c2 : r < 2 ^ 52
    · rw [if_pos c2]
      refine ⟨r, -1074, rfl, ?_⟩
      have a1 : (r : Rat) * pw (-1074) ≤ pw ((52 : Nat) : Int) * pw (-1074) := Rat.mul_le_mul_of_nonneg_right (cast_le_pw (by omega)) (pw_nonneg _)
      rw [← pw_add] at a1
      exact to_zero (Rat.mul_nonneg Rat.natCast_nonneg (pw_nonneg _)) a1 (pw_le (by omega))
    · rw [if_neg c2, if_pos (by omega)]
      refine ⟨_, _, rfl, ?_⟩
      have a1 : ((2 ^ 52 + r % 2 ^ 52 : Nat) : Rat) * pw (-1074 + ((r / 2 ^ 52 - 1 : Nat) : Int)) ≤ pw ((53 : Nat) : Int) * pw (-1074 + ((r / 2 ^ 52 - 1 : Nat) : Int)) := Rat.mul_le_mul_of_nonneg_right (cast_le_pw (by omega)) (pw_nonneg _)
      rw [← pw_add] at a1
      exact to_zero (Rat.mul_nonneg Rat.natCast_nonneg (pw_nonneg _)) a1 (pw_le (by omega))
  · by_cases c2 : r / 2 ^ 52 = 1022
    · have e1 : rnd r = 1023 * 2 ^ 52 := by unfold rnd; rw [if_neg c1, if_pos c2]
      rw [e1]
      have one : ((1 : Nat) : Rat) = 1 := rfl
      refine ⟨1, by omega, ⟨2 ^ 52, -52, by decide +kernel, ?_⟩, ?_⟩
      · rw [← pw_nat, ← pw_add, one]; exact pw_zero
      · rw [read_word false r (by omega), if_neg (by omega), if_pos (by omega), c2]
        refine ⟨_, _, rfl, ?_⟩
        have a1 : pw ((52 : Nat) : Int) * pw (-1074 + ((1022 - 1 : Nat) : Int)) ≤ ((2 ^ 52 + r % 2 ^ 52 : Nat) : Rat) * pw (-1074 + ((1022 - 1 : Nat) : Int)) := Rat.mul_le_mul_of_nonneg_right (pw_le_cast (by omega)) (pw_nonneg _)
        have a2 : ((2 ^ 52 + r % 2 ^ 52 : Nat) : Rat) * pw (-1074 + ((1022 - 1 : Nat) : Int)) ≤ pw ((53 : Nat) : Int) * pw (-1074 + ((1022 - 1 : Nat) : Int)) := Rat.mul_le_mul_of_nonneg_right (cast_le_pw (by omega)) (pw_nonneg _)
        rw [← pw_add] at a1 a2
        have a3 : pw (((53 : Nat) : Int) + (-1074 + ((1022 - 1 : Nat) : Int))) = 1 := pw_zero
        rw [a3] at a2
        exact to_one a1 a2
    · have c3 : r / 2 ^ 52 < 1075 := by omega
      have e1 : rnd r = (r + 2 ^ (1074 - r / 2 ^ 52)) / 2 ^ (1075 - r / 2 ^ 52) * 2 ^ (1075 - r / 2 ^ 52) := by unfold rnd; rw [if_neg c1, if_neg c2, if_pos c3]
      have hE : 1023 ≤ r / 2 ^ 52 := by omega
      have hrE : r = (r / 2 ^ 52 - 1) * 2 ^ 52 + (2 ^ 52 + r % 2 ^ 52) := by omega
      have hread : double.read (double.word false r) = .number false (2 ^ 52 + r % 2 ^ 52) (-1074 + ((r / 2 ^ 52 - 1 : Nat) : Int)) := by
        rw [read_word false r (by omega), if_neg (by omega), if_pos (by omega)]
      obtain ⟨K, hK, b1, b2, b3, b4⟩ := round_mid (2 ^ 52 + r % 2 ^ 52) (1075 - r / 2 ^ 52) (by omega) (by omega) (by omega) (by omega)
      have hM2 : 2 ^ 52 + r % 2 ^ 52 < 2 ^ 53 := by omega
      generalize hE' : r / 2 ^ 52 = E at *
      generalize hMM : 2 ^ 52 + r % 2 ^ 52 = M at *
      -- the rounded rung
      have h52 : 2 ^ 52 = 2 ^ (E - 1023) * 2 ^ (1075 - E) := by rw [← Nat.pow_add]; congr 1; omega
      have e2 : rnd r = (E - 1) * 2 ^ 52 + K * 2 ^ (1075 - E) := by
        rw [e1]
        have a1 : r + 2 ^ (1074 - E) = (M + 2 ^ (1075 - E - 1)) + ((E - 1) * 2 ^ (E - 1023)) * 2 ^ (1075 - E) := by
          rw [Nat.mul_assoc, ← h52, show 1075 - E - 1 = 1074 - E by omega]; omega
        rw [a1, Nat.add_mul_div_right _ _ (Nat.two_pow_pos _), hK, Nat.add_mul, Nat.mul_assoc, ← h52, Nat.add_comm]
      have hpE : ((K * 2 ^ (1075 - E) : Nat) : Rat) * pw (-1074 + ((E - 1 : Nat) : Int)) = (K : Rat) := by
        rw [Rat.natCast_mul, ← pw_nat, Rat.mul_assoc, ← pw_add, show (((1075 - E : Nat) : Int) + (-1074 + ((E - 1 : Nat) : Int))) = 0 by omega, pw_zero, Rat.mul_one]
      have hKle : K ≤ 2 ^ 52 := by
        have a1 : K * 2 ≤ K * 2 ^ (1075 - E) := Nat.mul_le_mul_left _ (by have := Nat.pow_le_pow_right (n := 2) (by omega) (show 1 ≤ 1075 - E by omega); simpa using this)
        omega
      refine ⟨K, hKle, ?_, ⟨_, _, hread, ?_⟩⟩
      · rw [e2]
        by_cases cK : K * 2 ^ (1075 - E) = 2 ^ 53
        · rw [cK] at hpE ⊢
          refine ⟨2 ^ 52, -1074 + ((E - 1 : Nat) : Int) + 1, ?_, ?_⟩
          · rw [read_word false _ (by omega), if_neg (by omega), if_pos (by omega)]
            have f1 : ((E - 1) * 2 ^ 52 + 2 ^ 53) % 2 ^ 52 = 0 := by omega
            have f2 : ((E - 1) * 2 ^ 52 + 2 ^ 53) / 2 ^ 52 = E + 1 := by omega
            have f3 : (-1074 + ((E + 1 - 1 : Nat) : Int)) = -1074 + ((E - 1 : Nat) : Int) + 1 := by omega
            rw [f1, f2, f3, Nat.add_zero]
          · rw [pw_succ, ← hpE, ← Rat.mul_assoc, show (2 : Nat) ^ 53 = 2 ^ 52 * 2 from by decide, Rat.natCast_mul]
            simp only [Rat.natCast_ofNat]
        · refine ⟨K * 2 ^ (1075 - E), -1074 + ((E - 1 : Nat) : Int), ?_, hpE⟩
          generalize K * 2 ^ (1075 - E) = Q at *
          rw [read_word false _ (by omega), if_neg (by omega), if_pos (by omega)]
          have f1 : ((E - 1) * 2 ^ 52 + Q) % 2 ^ 52 = Q - 2 ^ 52 := by omega
          have f2 : ((E - 1) * 2 ^ 52 + Q) / 2 ^ 52 = E := by omega
          have f3 : 2 ^ 52 + (Q - 2 ^ 52) = Q := by omega
          rw [f1, f2, f3]
      · have a3 : ((2 ^ (1075 - E) : Nat) : Rat) * pw (-1074 + ((E - 1 : Nat) : Int)) = 1 := by
          rw [← pw_nat, ← pw_add, show (((1075 - E : Nat) : Int) + (-1074 + ((E - 1 : Nat) : Int))) = 0 by omega, pw_zero]
        exact scaled (pw_nonneg _) hpE a3 b1 b2

theorem read_sign (s : Bool) {r : Nat} {m : Nat} {e : Int} (hr : r < 2 ^ 63) (h : double.read (double.word false r) = .number false m e) : double.read (double.word s r) = .number s m e := by
  rw [read_word false r hr] at h
  rw [read_word s r hr]
  split at h
  · rename_i c; rw [if_pos c]; simp only [Datum.number.injEq] at h ⊢; exact ⟨trivial, h.2⟩
  · rename_i c
    rw [if_neg c]
    split at h
    · rename_i c; rw [if_pos c]; simp only [Datum.number.injEq] at h ⊢; exact ⟨trivial, h.2⟩
    · split at h <;> cases h

theorem rnd_lt (r : Nat) (hr : r < 1075 * 2 ^ 52) : rnd r < 2 ^ 63 := by
  unfold rnd
  split
  · omega
  · split
    · omega
    · split
      · have h1 : (r + 2 ^ (1074 - r / 2 ^ 52)) / 2 ^ (1075 - r / 2 ^ 52) * 2 ^ (1075 - r / 2 ^ 52) ≤ r + 2 ^ (1074 - r / 2 ^ 52) := Nat.div_mul_le_self _ _
        have h2 : 2 ^ (1074 - r / 2 ^ 52) ≤ 2 ^ 52 := Nat.pow_le_pow_right (by omega) (by omega)
        omega
      · omega

theorem sg_cast (s : Bool) (K : Nat) : sg s (K : Rat) = (((if s then -(K : Int) else (K : Int)) : Int) : Rat) := by
  unfold sg
  cases s
  · simp only [Bool.false_eq_true, ↓reduceIte]; rw [Rat.intCast_natCast]
  · simp only [↓reduceIte]; rw [Rat.intCast_neg, Rat.intCast_natCast]

/-- A word whose magnitude lies below 2 to the power of 52, rounded: a whole number at most a half away. -/
theorem round_val (x : Nat) (hx : x < 2 ^ 64) (hr : x % 2 ^ 63 < 1075 * 2 ^ 52) : ∃ N : Int, N.natAbs ≤ 2 ^ 52 ∧ Is (rndW x) (N : Rat) ∧ isNum x ∧ 2 * ((N : Rat) - fv x) ≤ 1 ∧ -1 ≤ 2 * ((N : Rat) - fv x) := by
  obtain ⟨K, hK, ⟨m, e, h1, h2⟩, ⟨m', e', h3, h4, h5⟩⟩ := rnd_val _ hr
  have hl := rnd_lt _ hr
  have g1 := read_sign (x / 2 ^ 63 == 1) hl h1
  have g2 := read_sign (x / 2 ^ 63 == 1) (by omega) h3
  rw [← rndW_parts hx] at g1
  rw [← word_parts hx] at g2
  generalize (x / 2 ^ 63 == 1) = s at *
  have hb := read_bounds g1
  have hv : val (.number s m e) = sg s (K : Rat) := by rw [← h2]; rfl
  refine ⟨if s then -(K : Int) else (K : Int), by cases s <;> simp <;> omega, ⟨s, m, e, g1, ?_, hb⟩, ⟨s, m', e', g2⟩, ?_⟩
  · rw [hv, sg_cast]
  · have hf : fv x = sg s ((m' : Rat) * pw e') := by unfold fv; rw [g2]; rfl
    rw [hf, ← sg_cast]
    unfold sg
    generalize (m' : Rat) * pw e' = X at *
    generalize (K : Rat) = k at *
    cases s
    · simp only [Bool.false_eq_true, ↓reduceIte]; constructor <;> grind
    · simp only [↓reduceIte]; constructor <;> grind

theorem p52_is : double.read 4841369599423283200 = .number false (2 ^ 52) 0 := by decide +kernel

theorem small_52 {x : Nat} (hr : x % 2 ^ 63 < 1075 * 2 ^ 52) : (double.order (x % 2 ^ 63) 4841369599423283200 == some .gt || double.order (x % 2 ^ 63) 4841369599423283200 == some .eq) = false := by
  generalize x % 2 ^ 63 = r at *
  have hc : isNum 4841369599423283200 := ⟨_, _, _, p52_is⟩
  have hw : r = double.word false r := rfl
  have h : ∃ m e, double.read r = .number false m e ∧ m < 2 ^ 53 ∧ e ≤ -1 := by
    rw [hw, read_word false r (by omega)]
    split
    · exact ⟨_, _, rfl, by omega, by omega⟩
    · rw [if_pos (by omega)]
      exact ⟨_, _, rfl, by omega, by omega⟩
  obtain ⟨m, e, h, hm, he⟩ := h
  rw [order_fv ⟨_, _, _, h⟩ hc]
  have hlt : fv r < fv 4841369599423283200 := by
    unfold fv
    rw [h, p52_is]
    unfold val
    simp only [Bool.false_eq_true, ↓reduceIte]
    rw [pw_zero, Rat.mul_one]
    have a1 : (m : Rat) * pw e ≤ (m : Rat) * pw (-1) := Rat.mul_le_mul_of_nonneg_left (pw_le he) Rat.natCast_nonneg
    have a2 : (m : Rat) < ((2 ^ 53 : Nat) : Rat) := Rat.natCast_lt_natCast.2 hm
    have a3 : (m : Rat) * pw (-1) < ((2 ^ 53 : Nat) : Rat) * pw (-1) := Rat.mul_lt_mul_of_pos_right a2 (pw_pos _)
    have a4 : ((2 ^ 53 : Nat) : Rat) * pw (-1) = ((2 ^ 52 : Nat) : Rat) := by rw [← pw_nat, ← pw_nat, ← pw_add]; rfl
    rw [a4] at a3
    generalize ((2 ^ 52 : Nat) : Rat) = c at *
    grind
  simp [hlt]

theorem big_52 {x : Nat} (hx : isNum x) (hr : ¬ x % 2 ^ 63 < 1075 * 2 ^ 52) : (double.order (x % 2 ^ 63) 4841369599423283200 == some .gt || double.order (x % 2 ^ 63) 4841369599423283200 == some .eq) = true := by
  have hi := is_lt_inf (abs_is (num_is hx)) (Nat.mod_lt _ (by decide))
  have hn := (abs_is (num_is hx)).num
  generalize x % 2 ^ 63 = r at *
  have hc : isNum 4841369599423283200 := ⟨_, _, _, p52_is⟩
  have hw : r = double.word false r := rfl
  have h : ∃ m e, double.read r = .number false m e ∧ 2 ^ 52 ≤ m ∧ 0 ≤ e := by
    rw [hw, read_word false r (by omega), if_neg (by omega), if_pos hi]
    exact ⟨_, _, rfl, by omega, by omega⟩
  obtain ⟨m, e, h, hm, he⟩ := h
  rw [order_fv hn hc]
  have hle : fv 4841369599423283200 ≤ fv r := by
    unfold fv
    rw [h, p52_is]
    unfold val
    simp only [Bool.false_eq_true, ↓reduceIte]
    exact Rat.le_trans (Rat.mul_le_mul_of_nonneg_left (pw_le he) Rat.natCast_nonneg) (Rat.mul_le_mul_of_nonneg_right (Rat.natCast_le_natCast.2 hm) (pw_nonneg e))
  rw [if_neg (Rat.not_lt.2 hle)]
  split <;> rfl

theorem half_is : Is 4602678819172646912 (1 / 2) := by
  refine ⟨false, 2 ^ 52, -53, by decide +kernel, ?_, by decide, by decide, by decide⟩
  unfold val
  simp only [Bool.false_eq_true, ↓reduceIte]
  rw [← pw_nat, ← pw_add]
  exact pw_m1

/-- What is left between a number and its rounding: at most a half. -/
theorem round_rest {x : Nat} {N : Int} (hI : Is (rndW x) (N : Rat)) (hx : isNum x) (h1 : 2 * ((N : Rat) - fv x) ≤ 1) (h2 : -1 ≤ 2 * ((N : Rat) - fv x)) :
    ∃ d, double.sub (rndW x) x = some d ∧ (double.order (d % 2 ^ 63) 4602678819172646912 == some .lt || double.order (d % 2 ^ 63) 4602678819172646912 == some .eq) = true := by
  have hp := pw_m1
  have hbig : (1 : Rat) < pw 1023 := by have := pw_lt (show (0 : Int) < 1023 by omega); rwa [pw_zero] at this
  have b1 : (N : Rat) - fv x < pw 1023 := by grind
  have b2 : -(pw 1023) < (N : Rat) - fv x := by grind
  obtain ⟨d, v, e, i, r⟩ := sub_is hI (num_is hx) b1 b2
  refine ⟨d, e, ?_⟩
  have c1 := rounds_le r 1 (-1) (by decide) (by decide) (by rw [pw_m1]; simp; grind)
  have c2 := le_rounds r (-1) (-1) (by decide) (by decide) (by rw [pw_m1]; simp; grind)
  rw [pw_m1] at c1 c2
  have ha := abs_is i
  have hle : (if v < 0 then -v else v) ≤ 1 / 2 := by
    have e1 : ((1 : Int) : Rat) = 1 := rfl
    have e2 : ((-1 : Int) : Rat) = -1 := rfl
    rw [e1] at c1
    rw [e2] at c2
    split <;> grind
  rcases order_of_le ha half_is hle with h | h <;> rw [h] <;> rfl

/-- A whole number cut towards 0, written: it has the number's value. -/
theorem trunc_is {x : Nat} {n : Int} (h : Is x (n : Rat)) (hn : n.natAbs ≤ 2 ^ 53) : Is (double.write ((double.read x).integral .zero)) (n : Rat) := by
  have ht := toInt_is h
  obtain ⟨s, m, e, hr, _⟩ := h
  rw [hr] at ht ⊢
  unfold Datum.toInt Datum.integral at ht
  unfold Datum.integral
  simp only at ht ⊢
  generalize Toward.zero.cut s (m <<< e.toNat) (-e).toNat = k at *
  have hs : signed s k 0 = n := by simpa using ht
  have hk : k = n.natAbs := by
    rw [← hs]; unfold signed; rw [Nat.shiftLeft_zero]; cases s <;> simp
  have hX : (k : Rat) * pw 0 < pw 1023 := by
    rw [pw_zero, Rat.mul_one]
    have a1 : (k : Rat) ≤ pw ((53 : Nat) : Int) := cast_le_pw (by omega)
    have := pw_lt (show ((53 : Nat) : Int) < 1023 by omega)
    grind
  have hw := write_is s k 0 hX
  rw [near_exact k 0 k 0 (by omega) (by omega) rfl, pw_zero, Rat.mul_one, sg_cast] at hw
  have e1 : (if s then -(k : Int) else (k : Int)) = n := by
    rw [← hs]; unfold signed; rw [Nat.shiftLeft_zero]
  rwa [e1] at hw

theorem p53_is : Is 4845873199050653696 ((9007199254740992 : Int) : Rat) := by
  have h : ofI 9007199254740992 = 4845873199050653696 := by decide +kernel
  rw [← h]; exact ofI_is _ (by decide)
theorem m53_is : Is 14069245235905429504 ((-9007199254740992 : Int) : Rat) := by
  have h : ofI (-9007199254740992) = 14069245235905429504 := by decide +kernel
  rw [← h]; exact ofI_is _ (by decide)

theorem and_high (a D : Nat) (ha : a < 2 ^ 64) (hD : D ≤ 64) : a &&& (2 ^ 64 - 1 - (2 ^ D - 1)) = a / 2 ^ D * 2 ^ D := by
  have e : 2 ^ 64 - 1 - (2 ^ D - 1) = (2 ^ (64 - D) - 1) <<< D := by
    rw [Nat.shiftLeft_eq, Nat.sub_mul, ← Nat.pow_add, show 64 - D + D = 64 by omega]
    have := Nat.two_pow_pos D
    omega
  rw [e]
  apply Nat.eq_of_testBit_eq
  intro i
  rw [← Nat.shiftLeft_eq, Nat.testBit_and, Nat.testBit_shiftLeft, Nat.testBit_shiftLeft, Nat.testBit_two_pow_sub_one, Nat.testBit_div_two_pow]
  by_cases h : D ≤ i
  · by_cases h2 : i < 64
    · simp [h, show i - D < 64 - D by omega, show i - D + D = i by omega]
    · have h3 : a.testBit i = false := Nat.testBit_lt_two_pow (Nat.lt_of_lt_of_le ha (Nat.pow_le_pow_right (by omega) (by omega)))
      simp [h3, show i - D + D = i by omega]
  · simp [h]

theorem and_sign (x : Nat) (hx : x < 2 ^ 64) : x &&& 9223372036854775808 = x / 2 ^ 63 * 2 ^ 63 := by
  have h : (9223372036854775808 : Nat) = 2 ^ 64 - 1 - (2 ^ 63 - 1) := by decide
  rw [h]; exact and_high x 63 hx (by omega)

theorem or_one (b : Nat) (hb : b < 2) : b * 2 ^ 63 ||| 4607182418800017408 = b * 2 ^ 63 + 1023 * 2 ^ 52 := by
  rcases (by omega : b = 0 ∨ b = 1) with rfl | rfl <;> decide

theorem field (x : Nat) : x / 4503599627370496 &&& 2047 = x % 2 ^ 63 / 2 ^ 52 := by
  rw [show (2047 : Nat) = 2 ^ 11 - 1 from by decide, Nat.and_two_pow_sub_one_eq_mod]
  omega

theorem rndW_zero {x : Nat} (h : x % 2 ^ 63 / 2 ^ 52 < 1022) : rndW x = x / 2 ^ 63 * 2 ^ 63 := by
  unfold rndW rnd; rw [if_pos h, Nat.add_zero]
theorem rndW_one {x : Nat} (h : x % 2 ^ 63 / 2 ^ 52 = 1022) : rndW x = x / 2 ^ 63 * 2 ^ 63 + 1023 * 2 ^ 52 := by
  unfold rndW rnd; rw [if_neg (by omega), if_pos h]
theorem rndW_big {x : Nat} (h : 1075 ≤ x % 2 ^ 63 / 2 ^ 52) : rndW x = x := by
  have a : ¬ x % 2 ^ 63 / 2 ^ 52 < 1022 := by omega
  have b : ¬ x % 2 ^ 63 / 2 ^ 52 = 1022 := by omega
  have c : ¬ x % 2 ^ 63 / 2 ^ 52 < 1075 := by omega
  unfold rndW rnd
  rw [if_neg a, if_neg b, if_neg c]
  exact Nat.div_add_mod' x (2 ^ 63)

theorem rndW_mid {x : Nat} (h1 : 1023 ≤ x % 2 ^ 63 / 2 ^ 52) (h2 : x % 2 ^ 63 / 2 ^ 52 < 1075) :
    rndW x = (x + 2 ^ (1074 - x % 2 ^ 63 / 2 ^ 52)) / 2 ^ (1075 - x % 2 ^ 63 / 2 ^ 52) * 2 ^ (1075 - x % 2 ^ 63 / 2 ^ 52) := by
  unfold rndW rnd
  rw [if_neg (by omega), if_neg (by omega), if_pos h2]
  generalize hD : 1075 - x % 2 ^ 63 / 2 ^ 52 = D
  generalize 2 ^ (1074 - x % 2 ^ 63 / 2 ^ 52) = c
  have h63 : 2 ^ 63 = 2 ^ (63 - D) * 2 ^ D := by rw [← Nat.pow_add]; congr 1; omega
  have e : x + c = (x % 2 ^ 63 + c) + (x / 2 ^ 63 * 2 ^ (63 - D)) * 2 ^ D := by
    rw [Nat.mul_assoc, ← h63]; omega
  rw [e, Nat.add_mul_div_right _ _ (Nat.two_pow_pos _), Nat.add_mul, Nat.mul_assoc, ← h63, Nat.add_comm]

end Fl
