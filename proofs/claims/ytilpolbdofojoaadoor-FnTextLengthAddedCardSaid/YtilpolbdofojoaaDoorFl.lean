/-
  Plain facts on the doubles of the model, read as rational numbers: what a word's value is, how two compare, how the nearest word lies to a number, and what sums, products, quotients and roots come to.
  No program in sight; no condition beyond those that each theorem names.
-/
import Ieee.Arith
namespace Fl
open Ieee

/-- 2 to the power of e. -/
def pw (e : Int) : Rat := (2 : Rat) ^ e

theorem two_ne : (2 : Rat) ≠ 0 := by decide
theorem pw_pos (e : Int) : 0 < pw e := Rat.zpow_pos (by decide)
theorem pw_nonneg (e : Int) : 0 ≤ pw e := Rat.le_of_lt (pw_pos e)
theorem pw_ne (e : Int) : pw e ≠ 0 := fun h => Rat.lt_irrefl (h ▸ pw_pos e)
theorem pw_add (a b : Int) : pw (a + b) = pw a * pw b := Rat.zpow_add two_ne a b
theorem pw_zero : pw 0 = 1 := Rat.zpow_zero 2
theorem pw_nat (n : Nat) : pw (n : Int) = ((2 ^ n : Nat) : Rat) := by
  unfold pw; rw [Rat.zpow_natCast, Rat.natCast_pow]; rfl
theorem pw_succ (e : Int) : pw (e + 1) = 2 * pw e := by
  rw [pw_add]; show pw e * pw ((1 : Nat) : Int) = _; rw [pw_nat]; show pw e * 2 = _; rw [Rat.mul_comm]
theorem pw_le {a b : Int} (h : a ≤ b) : pw a ≤ pw b := by
  obtain ⟨n, rfl⟩ : ∃ n : Nat, b = a + n := ⟨(b - a).toNat, by omega⟩
  rw [pw_add, pw_nat]
  have h1 : (1 : Rat) ≤ ((2 ^ n : Nat) : Rat) := by
    have : 1 ≤ 2 ^ n := Nat.one_le_two_pow
    exact Rat.natCast_le_natCast.2 this
  have := Rat.mul_le_mul_of_nonneg_left h1 (pw_nonneg a)
  rwa [Rat.mul_one] at this

/-- The magnitude of a datum, as a rational. -/
def mag : Datum → Rat
  | .number _ m e => (m : Rat) * pw e
  | _ => 0
/-- The value of a datum, as a rational. -/
def val : Datum → Rat
  | .number s m e => if s then -((m : Rat) * pw e) else (m : Rat) * pw e
  | _ => 0
def fin (d : Datum) : Prop := ∃ s m e, d = .number s m e

theorem signed_val (s : Bool) (m : Nat) (e b : Int) (h : b ≤ e) : ((signed s m (e - b).toNat : Int) : Rat) * pw b = val (.number s m e) := by
  have e1 : pw e = ((2 ^ (e - b).toNat : Nat) : Rat) * pw b := by
    have : e = ((e - b).toNat : Int) + b := by omega
    conv => lhs; rw [this, pw_add, pw_nat]
  unfold signed val
  cases s
  · simp only [Bool.false_eq_true, ↓reduceIte]
    rw [e1, Rat.intCast_natCast, Nat.shiftLeft_eq, Rat.natCast_mul, Rat.mul_assoc]
  · simp only [↓reduceIte]
    rw [e1, Rat.intCast_neg, Rat.intCast_natCast, Nat.shiftLeft_eq, Rat.natCast_mul, Rat.neg_mul, Rat.mul_assoc]

theorem lt_of_scaled {a b : Int} {p : Int} : (a : Rat) * pw p < (b : Rat) * pw p ↔ a < b := by
  rw [Rat.mul_lt_mul_right (pw_pos p), Rat.intCast_lt_intCast]

theorem eq_of_scaled {a b : Int} {p : Int} : (a : Rat) * pw p = (b : Rat) * pw p ↔ a = b := by
  constructor
  · intro h
    rcases Int.lt_trichotomy a b with c | c | c
    · exact absurd (lt_of_scaled.2 c) (by rw [h]; exact Rat.lt_irrefl)
    · exact c
    · exact absurd (lt_of_scaled.2 c) (by rw [h]; exact Rat.lt_irrefl)
  · rintro rfl; rfl

/-- How two numbers compare, by their values. -/
theorem order_num (s : Bool) (m : Nat) (i : Int) (t : Bool) (n : Nat) (j : Int) :
    Datum.order (.number s m i) (.number t n j) = some (if val (.number s m i) < val (.number t n j) then .lt else if val (.number s m i) = val (.number t n j) then .eq else .gt) := by
  have h1 := signed_val s m i (min i j) (by omega)
  have h2 := signed_val t n j (min i j) (by omega)
  unfold Datum.order
  simp only [← h1, ← h2, lt_of_scaled, eq_of_scaled]
  congr 1

theorem cut_even_zero (neg : Bool) (n : Nat) : Toward.even.cut neg n 0 = n := by
  unfold Toward.cut
  simp [Nat.mod_one]

/-- The nearest whole number: twice over, so that halves are whole. -/
theorem cut_even (neg : Bool) (n drop : Nat) :
    2 * (Toward.even.cut neg n drop * 2 ^ drop) ≤ 2 * n + 2 ^ drop ∧ 2 * n ≤ 2 * (Toward.even.cut neg n drop * 2 ^ drop) + 2 ^ drop := by
  unfold Toward.cut
  simp only [Nat.one_shiftLeft]
  by_cases h : drop ≤ n.log2 + 2
  · rw [Nat.min_eq_left h]
    have hg : 0 < 2 ^ drop := Nat.two_pow_pos _
    have hd := Nat.div_add_mod n (2 ^ drop)
    have hm := Nat.mod_lt n hg
    generalize n / 2 ^ drop = q at *
    generalize n % 2 ^ drop = r at *
    generalize 2 ^ drop = g at *
    have e1 : (q + 0) * g = g * q := by rw [Nat.add_zero, Nat.mul_comm]
    have e2 : (q + 1) * g = g * q + g := by rw [Nat.add_mul, Nat.mul_comm q g, Nat.one_mul]
    generalize hb : (decide (g < 2 * r) || (g == 2 * r && q % 2 == 1)) = b
    cases b
    · simp only [Bool.toNat_false, e1]
      simp only [Bool.or_eq_false_iff, decide_eq_false_iff_not] at hb
      omega
    · simp only [Bool.toNat_true, e2]
      simp only [Bool.or_eq_true, decide_eq_true_eq, Bool.and_eq_true, beq_iff_eq] at hb
      omega
  · have h' : n.log2 + 2 ≤ drop := by omega
    rw [Nat.min_eq_right h']
    have hn : n < 2 ^ (n.log2 + 1) := Nat.lt_log2_self
    have e : 2 ^ (n.log2 + 2) = 2 * 2 ^ (n.log2 + 1) := by rw [Nat.pow_succ]; omega
    have hlow : n / 2 ^ (n.log2 + 2) = 0 := Nat.div_eq_of_lt (by omega)
    have hmod : n % 2 ^ (n.log2 + 2) = n := Nat.mod_eq_of_lt (by omega)
    rw [hlow, hmod]
    have hb : (decide (2 ^ (n.log2 + 2) < 2 * n) || (2 ^ (n.log2 + 2) == 2 * n && 0 % 2 == 1)) = false := by
      simp; omega
    rw [hb]
    have hle : 2 ^ (n.log2 + 2) ≤ 2 ^ drop := Nat.pow_le_pow_right (by omega) h'
    simp
    omega

/-- The place of the last digit that is kept, and the digits. -/
def lastOf (m : Nat) (place : Int) : Int := max (place + m.log2 - 52) (-1074)
def keptOf (m : Nat) (place : Int) : Nat := Toward.even.cut false (m <<< (place - lastOf m place).toNat) (lastOf m place - place).toNat
def near (m : Nat) (place : Int) : Rat := (keptOf m place : Rat) * pw (lastOf m place)

theorem near_close (m : Nat) (place : Int) :
    2 * near m place ≤ 2 * ((m : Rat) * pw place) + pw (lastOf m place) ∧ 2 * ((m : Rat) * pw place) ≤ 2 * near m place + pw (lastOf m place) := by
  unfold near keptOf
  generalize lastOf m place = L
  by_cases h : L ≤ place
  · rw [show (L - place).toNat = 0 by omega, cut_even_zero, Nat.shiftLeft_eq, Rat.natCast_mul, ← pw_nat, Rat.mul_assoc, ← pw_add, show ((place - L).toNat : Int) + L = place by omega]
    have := pw_pos L
    constructor <;> grind
  · rw [show (place - L).toNat = 0 by omega, Nat.shiftLeft_zero]
    have hc := cut_even false m (L - place).toNat
    generalize Toward.even.cut false m (L - place).toNat = k at *
    have e : pw L = ((2 ^ (L - place).toNat : Nat) : Rat) * pw place := by
      rw [← pw_nat, ← pw_add]; congr 1; omega
    rw [e]
    generalize 2 ^ (L - place).toNat = g at *
    have c1 : ((2 * (k * g) : Nat) : Rat) ≤ ((2 * m + g : Nat) : Rat) := Rat.natCast_le_natCast.2 hc.1
    have c2 : ((2 * m : Nat) : Rat) ≤ ((2 * (k * g) + g : Nat) : Rat) := Rat.natCast_le_natCast.2 hc.2
    have d1 := Rat.mul_le_mul_of_nonneg_right c1 (pw_nonneg place)
    have d2 := Rat.mul_le_mul_of_nonneg_right c2 (pw_nonneg place)
    simp only [Rat.natCast_add, Rat.natCast_mul, Rat.natCast_ofNat] at d1 d2
    constructor <;> grind

theorem log2_le (m : Nat) (h : m ≠ 0) : 2 ^ m.log2 ≤ m := Nat.log2_self_le h

theorem X_lo (m : Nat) (h : m ≠ 0) (place : Int) : pw (place + m.log2) ≤ (m : Rat) * pw place := by
  rw [pw_add, pw_nat, Rat.mul_comm]
  exact Rat.mul_le_mul_of_nonneg_right (Rat.natCast_le_natCast.2 (log2_le m h)) (pw_nonneg _)

theorem X_hi (m : Nat) (place : Int) : (m : Rat) * pw place < pw (place + m.log2 + 1) := by
  rw [show place + (m.log2 : Int) + 1 = place + ((m.log2 + 1 : Nat) : Int) by omega, pw_add, pw_nat, Rat.mul_comm (pw place)]
  exact Rat.mul_lt_mul_of_pos_right (Rat.natCast_lt_natCast.2 Nat.lt_log2_self) (pw_pos _)

/-- Past no number that the format has: z is k times 2 to the power of e, k at most 2 to the power of 53. -/
theorem near_le (m : Nat) (place : Int) (k : Nat) (e : Int) (hk : k ≤ 2 ^ 53) (he : -1074 ≤ e) (hz : (m : Rat) * pw place ≤ (k : Rat) * pw e) : near m place ≤ (k : Rat) * pw e := by
  by_cases hm : m = 0
  · subst hm
    have h0 : near 0 place = 0 := by
      unfold near keptOf
      rw [Nat.zero_shiftLeft]
      have := cut_even false 0 (lastOf 0 place - place).toNat
      have hp : 0 < 2 ^ (lastOf 0 place - place).toNat := Nat.two_pow_pos _
      generalize Toward.even.cut false 0 (lastOf 0 place - place).toNat = c at *
      have : c = 0 := by
        rcases Nat.eq_zero_or_pos c with h | h
        · exact h
        · have := Nat.mul_le_mul_right (2 ^ (lastOf 0 place - place).toNat) h
          omega
      subst this; simp
    rw [h0]; exact Rat.mul_nonneg (Rat.natCast_nonneg) (pw_nonneg e)
  have hc := (near_close m place).1
  have hlo := X_lo m hm place
  have hL : lastOf m place = place + m.log2 - 52 ∨ lastOf m place = -1074 := by unfold lastOf; omega
  generalize hLL : lastOf m place = L at *
  by_cases h : L ≤ e
  · -- z is a whole number of units
    unfold near at *
    rw [hLL] at *
    have ez : (k : Rat) * pw e = ((k * 2 ^ (e - L).toNat : Nat) : Rat) * pw L := by
      rw [Rat.natCast_mul, ← pw_nat, Rat.mul_assoc, ← pw_add, show ((e - L).toNat : Int) + L = e by omega]
    rw [ez] at hz ⊢
    generalize k * 2 ^ (e - L).toNat = K at *
    have h2 : ((2 * keptOf m place : Nat) : Rat) * pw L ≤ ((2 * K + 1 : Nat) : Rat) * pw L := by
      simp only [Rat.natCast_add, Rat.natCast_mul, Rat.natCast_ofNat]
      grind
    have h3 := Rat.natCast_le_natCast.1 (Rat.le_of_mul_le_mul_right h2 (pw_pos L))
    exact Rat.mul_le_mul_of_nonneg_right (Rat.natCast_le_natCast.2 (by omega)) (pw_nonneg L)
  · -- z is at most the binade's first number
    have hL' : L = place + m.log2 - 52 := by omega
    have hz2 : (k : Rat) * pw e ≤ pw (L + 52) := by
      have h1 : (k : Rat) * pw e ≤ ((2 ^ 53 : Nat) : Rat) * pw e := Rat.mul_le_mul_of_nonneg_right (Rat.natCast_le_natCast.2 hk) (pw_nonneg e)
      rw [← pw_nat, ← pw_add] at h1
      exact Rat.le_trans h1 (pw_le (by omega))
    have hx : pw (L + 52) ≤ (m : Rat) * pw place := by rw [hL', show place + (m.log2 : Int) - 52 + 52 = place + m.log2 by omega]; exact hlo
    have e1 : (m : Rat) * pw place = pw (L + 52) := Rat.le_antisymm (Rat.le_trans hz hz2) hx
    have e2 : (k : Rat) * pw e = pw (L + 52) := Rat.le_antisymm hz2 (Rat.le_trans hx hz)
    have e3 : pw (L + 52) = ((2 ^ 52 : Nat) : Rat) * pw L := by rw [Int.add_comm, pw_add]; congr 1
    rw [e2, e3]
    unfold near at *
    rw [hLL] at *
    rw [e1, e3] at hc
    have h2 : ((2 * keptOf m place : Nat) : Rat) * pw L ≤ ((2 * 2 ^ 52 + 1 : Nat) : Rat) * pw L := by
      simp only [Rat.natCast_add, Rat.natCast_mul, Rat.natCast_ofNat] at hc ⊢
      grind
    have h3 := Rat.natCast_le_natCast.1 (Rat.le_of_mul_le_mul_right h2 (pw_pos L))
    exact Rat.mul_le_mul_of_nonneg_right (Rat.natCast_le_natCast.2 (by omega)) (pw_nonneg L)

theorem le_near (m : Nat) (place : Int) (k : Nat) (e : Int) (hk : k ≤ 2 ^ 53) (he : -1074 ≤ e) (hz : (k : Rat) * pw e ≤ (m : Rat) * pw place) : (k : Rat) * pw e ≤ near m place := by
  have hc := (near_close m place).2
  have hL : lastOf m place = place + m.log2 - 52 ∨ lastOf m place = -1074 := by unfold lastOf; omega
  by_cases hm : m = 0
  · subst hm
    have h0 : (k : Rat) * pw e ≤ 0 := by simpa using hz
    refine Rat.le_trans h0 ?_
    exact Rat.mul_nonneg (Rat.natCast_nonneg) (pw_nonneg _)
  have hlo := X_lo m hm place
  generalize hLL : lastOf m place = L at *
  by_cases h : L ≤ e
  · unfold near at *
    rw [hLL] at *
    have ez : (k : Rat) * pw e = ((k * 2 ^ (e - L).toNat : Nat) : Rat) * pw L := by
      rw [Rat.natCast_mul, ← pw_nat, Rat.mul_assoc, ← pw_add, show ((e - L).toNat : Int) + L = e by omega]
    rw [ez] at hz ⊢
    generalize k * 2 ^ (e - L).toNat = K at *
    have h2 : ((2 * K : Nat) : Rat) * pw L ≤ ((2 * keptOf m place + 1 : Nat) : Rat) * pw L := by
      simp only [Rat.natCast_add, Rat.natCast_mul, Rat.natCast_ofNat]
      grind
    have h3 := Rat.natCast_le_natCast.1 (Rat.le_of_mul_le_mul_right h2 (pw_pos L))
    exact Rat.mul_le_mul_of_nonneg_right (Rat.natCast_le_natCast.2 (by omega)) (pw_nonneg L)
  · have hL' : L = place + m.log2 - 52 := by omega
    have hz2 : (k : Rat) * pw e ≤ pw (L + 52) := by
      have h1 : (k : Rat) * pw e ≤ ((2 ^ 53 : Nat) : Rat) * pw e := Rat.mul_le_mul_of_nonneg_right (Rat.natCast_le_natCast.2 hk) (pw_nonneg e)
      rw [← pw_nat, ← pw_add] at h1
      exact Rat.le_trans h1 (pw_le (by omega))
    have hx : pw (L + 52) ≤ (m : Rat) * pw place := by rw [hL', show place + (m.log2 : Int) - 52 + 52 = place + m.log2 by omega]; exact hlo
    refine Rat.le_trans hz2 ?_
    have e3 : pw (L + 52) = ((2 ^ 52 : Nat) : Rat) * pw L := by rw [Int.add_comm, pw_add]; congr 1
    unfold near at *
    rw [hLL] at *
    rw [e3] at hx ⊢
    have h2 : ((2 * 2 ^ 52 : Nat) : Rat) * pw L ≤ ((2 * keptOf m place + 1 : Nat) : Rat) * pw L := by
      simp only [Rat.natCast_add, Rat.natCast_mul, Rat.natCast_ofNat] at hx ⊢
      grind
    have h3 := Rat.natCast_le_natCast.1 (Rat.le_of_mul_le_mul_right h2 (pw_pos L))
    exact Rat.mul_le_mul_of_nonneg_right (Rat.natCast_le_natCast.2 (by omega)) (pw_nonneg L)

/-- A number that the format has is its own nearest. -/
theorem near_exact (m : Nat) (place : Int) (k : Nat) (e : Int) (hk : k ≤ 2 ^ 53) (he : -1074 ≤ e) (hz : (m : Rat) * pw place = (k : Rat) * pw e) : near m place = (m : Rat) * pw place := by
  rw [hz]
  exact Rat.le_antisymm (near_le m place k e hk he (hz ▸ Rat.le_refl)) (le_near m place k e hk he (hz ▸ Rat.le_refl))

theorem kept_bounds (m : Nat) (place : Int) (hm : m ≠ 0) : keptOf m place ≤ 2 ^ 53 ∧ (2 ^ 52 ≤ keptOf m place ∨ lastOf m place = -1074) := by
  have hL : lastOf m place = max (place + m.log2 - 52) (-1074) := rfl
  constructor
  · have h := near_le m place (2 ^ 53) (lastOf m place) (by omega) (by omega) (by
      rw [← pw_nat, ← pw_add]
      exact Rat.le_trans (Rat.le_of_lt (X_hi m place)) (pw_le (by omega)))
    unfold near at h
    exact Rat.natCast_le_natCast.1 (Rat.le_of_mul_le_mul_right h (pw_pos _))
  · by_cases c : lastOf m place = -1074
    · exact .inr c
    · left
      have h := le_near m place (2 ^ 52) (lastOf m place) (by omega) (by omega) (by
        rw [← pw_nat, ← pw_add]
        exact Rat.le_trans (pw_le (by omega)) (X_lo m hm place))
      unfold near at h
      exact Rat.natCast_le_natCast.1 (Rat.le_of_mul_le_mul_right h (pw_pos _))

def rungOf (m : Nat) (place : Int) : Nat := (lastOf m place + 1074).toNat * 2 ^ 52 + keptOf m place

theorem cut_neg (neg : Bool) (n drop : Nat) : Toward.even.cut neg n drop = Toward.even.cut false n drop := rfl

theorem nearest_eq (s : Bool) (m : Nat) (place : Int) (hm : m ≠ 0) : double.nearest s m place = double.word s (min (rungOf m place) double.infRung) := by
  unfold Format.nearest
  rw [if_neg hm]
  have hf : ((double.fractionBits : Nat) : Int) = 52 := rfl
  have hl : double.leastPlace = -1074 := by decide
  have hb : double.binade = 2 ^ 52 := rfl
  simp only [hf, hl, hb]
  have e : max (place + (m.log2 : Int) - 52) (-1074) = lastOf m place := rfl
  rw [e]
  have e2 : Toward.even.cut s (m <<< (place - lastOf m place).toNat) (lastOf m place - place).toNat = keptOf m place := rfl
  rw [e2]
  have e3 : (lastOf m place - -1074).toNat = (lastOf m place + 1074).toNat := by congr 1
  rw [e3]; rfl

theorem infRung_val : double.infRung = 2047 * 2 ^ 52 := by decide
theorem signWeight_val : double.signWeight = 2 ^ 63 := by decide
theorem read_word (s : Bool) (r : Nat) (h : r < 2 ^ 63) : double.read (double.word s r) =
    if r < 2 ^ 52 then .number s r (-1074) else if r < 2047 * 2 ^ 52 then .number s (2 ^ 52 + r % 2 ^ 52) (-1074 + (r / 2 ^ 52 - 1 : Nat)) else if r = 2047 * 2 ^ 52 then .infinity s else .nan s (r - 2047 * 2 ^ 52) := by
  unfold Format.read Format.word
  have hb : double.binade = 2 ^ 52 := by decide
  have hl : double.leastPlace = -1074 := by decide
  simp only [infRung_val, signWeight_val, hb, hl]
  have e1 : (if s = true then 2 ^ 63 + r else r) % 2 ^ 63 = r := by split <;> omega
  have e2 : ((if s = true then 2 ^ 63 + r else r) / 2 ^ 63 % 2 == 1) = s := by
    cases s
    · simp only [Bool.false_eq_true, ↓reduceIte]; rw [show r / 2 ^ 63 = 0 by omega]; rfl
    · simp only [↓reduceIte]; rw [show (2 ^ 63 + r) / 2 ^ 63 = 1 by omega]; rfl
  simp only [e1, e2]

/-- What is read where a number was written: its nearest, or an infinity. -/
theorem read_nearest (s : Bool) (m : Nat) (place : Int) (hm : m ≠ 0) (h : rungOf m place < 2047 * 2 ^ 52) :
    ∃ m' e', double.read (double.nearest s m place) = .number s m' e' ∧ (m' : Rat) * pw e' = near m place ∧ m' < 2 ^ 53 ∧ -1074 ≤ e' ∧ e' ≤ 971 ∧ (m' < 2 ^ 52 → e' = -1074) := by
  rw [nearest_eq s m place hm, infRung_val, Nat.min_eq_left (by omega), read_word s _ (by omega)]
  have hk := kept_bounds m place hm
  have hL : -1074 ≤ lastOf m place := by unfold lastOf; omega
  unfold near
  unfold rungOf at *
  generalize keptOf m place = k at *
  generalize lastOf m place = L at *
  by_cases c1 : (L + 1074).toNat * 2 ^ 52 + k < 2 ^ 52
  · rw [if_pos c1]
    have : L = -1074 := by omega
    subst this
    refine ⟨_, _, rfl, ?_, by omega, by omega, by omega, fun _ => rfl⟩
    simp
  · rw [if_neg c1, if_pos h]
    by_cases c2 : k = 2 ^ 53
    · subst c2
      refine ⟨_, _, rfl, ?_, by omega, by omega, by omega, by omega⟩
      have e1 : ((L + 1074).toNat * 2 ^ 52 + 2 ^ 53) % 2 ^ 52 = 0 := by omega
      have e2 : (-1074 + ((((L + 1074).toNat * 2 ^ 52 + 2 ^ 53) / 2 ^ 52 - 1 : Nat) : Int)) = L + 1 := by omega
      rw [e1, e2, Nat.add_zero, pw_succ, ← Rat.mul_assoc, show (2 : Nat) ^ 53 = 2 ^ 52 * 2 from by decide, Rat.natCast_mul]
      simp only [Rat.natCast_ofNat]
    · have hk2 : 2 ^ 52 ≤ k := by omega
      refine ⟨_, _, rfl, ?_, by omega, by omega, by omega, by omega⟩
      have e1 : 2 ^ 52 + ((L + 1074).toNat * 2 ^ 52 + k) % 2 ^ 52 = k := by omega
      have e2 : (-1074 + ((((L + 1074).toNat * 2 ^ 52 + k) / 2 ^ 52 - 1 : Nat) : Int)) = L := by omega
      rw [e1, e2]

theorem rung_small (m : Nat) (place : Int) (hm : m ≠ 0) (h : place + m.log2 ≤ 1022) : rungOf m place < 2047 * 2 ^ 52 := by
  have hk := kept_bounds m place hm
  have hL : lastOf m place ≤ 970 := by unfold lastOf; omega
  unfold rungOf
  omega

theorem log2_lt_of (m : Nat) (place e : Int) (hm : m ≠ 0) (h : (m : Rat) * pw place < pw e) : place + m.log2 < e := by
  rcases Int.lt_or_le (place + m.log2) e with c | c
  · exact c
  · exact absurd (Rat.le_trans (pw_le c) (X_lo m hm place)) (Rat.not_le.2 h)

/-- The relative error of a rounding. -/
theorem near_rel (m : Nat) (place : Int) (h : pw (-1022) ≤ (m : Rat) * pw place) :
    near m place ≤ (m : Rat) * pw place * (1 + pw (-53)) ∧ (m : Rat) * pw place * (1 - pw (-53)) ≤ near m place := by
  have hm : m ≠ 0 := by
    rintro rfl
    have := pw_pos (-1022)
    simp at h
    exact absurd h (Rat.not_le.2 this)
  have hc := near_close m place
  have hx := X_hi m place
  have hlo := X_lo m hm place
  have h1 : (-1022 : Int) < place + m.log2 + 1 := by
    rcases Int.lt_or_le (-1022) (place + m.log2 + 1) with c | c
    · exact c
    · have := pw_le c
      exact absurd (Rat.le_trans this h) (Rat.not_le.2 hx)
  have hL : lastOf m place = place + m.log2 - 52 := by unfold lastOf; omega
  rw [hL] at hc
  have e1 : pw (place + m.log2 - 52) = 2 * (pw (place + m.log2) * pw (-53)) := by
    rw [← pw_add, ← pw_succ]; congr 1; omega
  have h2 : pw (place + m.log2 - 52) ≤ 2 * ((m : Rat) * pw place * pw (-53)) := by
    rw [e1]
    have := Rat.mul_le_mul_of_nonneg_right hlo (pw_nonneg (-53))
    grind
  generalize (m : Rat) * pw place = X at *
  generalize pw (place + m.log2 - 52) = u at *
  generalize near m place = N at *
  constructor <;> grind

/-- What float64Cmp computes. -/
def cmpF (x y : Nat) : Int := if double.order x y == some .lt then -1 else if double.order x y == some .gt then 1 else 0

def isNum (x : Nat) : Prop := ∃ s m e, double.read x = .number s m e
def fv (x : Nat) : Rat := val (double.read x)

theorem order_fv {x y : Nat} (hx : isNum x) (hy : isNum y) : double.order x y = some (if fv x < fv y then .lt else if fv x = fv y then .eq else .gt) := by
  obtain ⟨s, m, i, hx⟩ := hx
  obtain ⟨t, n, j, hy⟩ := hy
  unfold Format.order fv
  rw [hx, hy, order_num]

theorem cmpF_num {x y : Nat} (hx : isNum x) (hy : isNum y) : cmpF x y = if fv x < fv y then -1 else if fv x = fv y then 0 else 1 := by
  unfold cmpF
  rw [order_fv hx hy]
  by_cases h : fv x < fv y
  · simp [h]
  · by_cases h' : fv x = fv y
    · simp [h']
    · simp [h, h']

theorem cmp_law {x y z : Nat} (hx : isNum x) (hy : isNum y) (hz : isNum z) :
    ¬ (cmpF x y ≤ 0 ∧ cmpF y z ≤ 0 ∧ 0 < cmpF x z) ∧ cmpF x y = - cmpF y x ∧ ((cmpF x y = 0) ↔ double.order x y = some .eq) := by
  rw [cmpF_num hx hy, cmpF_num hy hz, cmpF_num hx hz, cmpF_num hy hx, order_fv hx hy]
  generalize fv x = a
  generalize fv y = b
  generalize fv z = c
  refine ⟨?_, ?_, ?_⟩
  · grind
  · grind
  · by_cases h : a < b
    · simp [h]
    · by_cases h' : a = b
      · simp [h']
      · simp [h, h']

/-- The word x is a number of the value v. -/
def Is (x : Nat) (v : Rat) : Prop := ∃ s m e, double.read x = .number s m e ∧ val (.number s m e) = v ∧ m < 2 ^ 53 ∧ -1074 ≤ e ∧ e ≤ 971

theorem Is.num {x : Nat} {v : Rat} (h : Is x v) : isNum x := by obtain ⟨s, m, e, h, _⟩ := h; exact ⟨s, m, e, h⟩
theorem Is.fv {x : Nat} {v : Rat} (h : Is x v) : fv x = v := by obtain ⟨s, m, e, h, h', _⟩ := h; unfold Fl.fv; rw [h, h']
theorem is_fv {x : Nat} {v : Rat} (h : Is x v) : Is x (Fl.fv x) := by rw [h.fv]; exact h

def sg (s : Bool) (v : Rat) : Rat := if s then -v else v

/-- A rounding: v is what X is rounded to. -/
def Rounds (X v : Rat) : Prop := ∃ (s : Bool) (m : Nat) (p : Int), X = sg s ((m : Rat) * pw p) ∧ v = sg s (near m p)

theorem near_zero (place : Int) : near 0 place = 0 := by
  have h := near_le 0 place 0 0 (by omega) (by omega) (by simp)
  have h' := le_near 0 place 0 0 (by omega) (by omega) (by simp)
  exact Rat.le_antisymm (by simpa using h) (by simpa using h')

theorem write_is (s : Bool) (m : Nat) (p : Int) (h : (m : Rat) * pw p < pw 1023) : Is (double.write (.number s m p)) (sg s (near m p)) := by
  unfold Format.write
  by_cases hm : m = 0
  · subst hm
    refine ⟨s, 0, -1074, ?_, ?_, by omega, by omega, by omega⟩
    · show double.read (double.nearest s 0 p) = _
      unfold Format.nearest
      rw [if_pos rfl, read_word s 0 (by omega)]; rfl
    · rw [near_zero]; unfold val sg; simp
  · have hl := log2_lt_of m p 1023 hm h
    obtain ⟨m', e', h1, h2, h3, h4, h5, _⟩ := read_nearest s m p hm (rung_small m p hm (by omega))
    refine ⟨s, m', e', h1, ?_, h3, h4, h5⟩
    unfold val sg
    simp only [h2]

theorem neg_le_of {a b : Rat} (h : -a ≤ -b) : b ≤ a := Rat.neg_le_neg_iff.1 h

theorem rounds_le {X v : Rat} (h : Rounds X v) (k : Int) (e : Int) (hk : k.natAbs ≤ 2 ^ 53) (he : -1074 ≤ e) (hz : X ≤ (k : Rat) * pw e) : v ≤ (k : Rat) * pw e := by
  obtain ⟨s, m, p, rfl, rfl⟩ := h
  rcases Int.le_total 0 k with c | c
  · obtain ⟨n, rfl⟩ := Int.eq_ofNat_of_zero_le c
    rw [Rat.intCast_natCast] at *
    have hn : (0 : Rat) ≤ (n : Rat) * pw e := Rat.mul_nonneg Rat.natCast_nonneg (pw_nonneg e)
    cases s
    · exact near_le m p n e (by omega) he hz
    · unfold sg
      have : 0 ≤ near m p := Rat.mul_nonneg Rat.natCast_nonneg (pw_nonneg _)
      simp only [↓reduceIte]
      grind
  · obtain ⟨n, hn⟩ := Int.eq_ofNat_of_zero_le (a := -k) (by omega)
    obtain rfl : k = -(n : Int) := by omega
    rw [Rat.intCast_neg, Rat.intCast_natCast, Rat.neg_mul] at *
    have hn : (0 : Rat) ≤ (n : Rat) * pw e := Rat.mul_nonneg Rat.natCast_nonneg (pw_nonneg e)
    have hp : (0 : Rat) ≤ (m : Rat) * pw p := Rat.mul_nonneg Rat.natCast_nonneg (pw_nonneg p)
    cases s
    · have h0 : (m : Rat) * pw p = 0 := by unfold sg at hz; simp only [Bool.false_eq_true, ↓reduceIte] at hz; grind
      have h1 : (n : Rat) * pw e = 0 := by unfold sg at hz; simp only [Bool.false_eq_true, ↓reduceIte] at hz; grind
      have := near_le m p n e (by omega) he (by rw [h0, h1]; exact Rat.le_refl)
      unfold sg
      simp only [Bool.false_eq_true, ↓reduceIte]
      grind
    · unfold sg at *
      simp only [↓reduceIte] at *
      have := le_near m p n e (by omega) he (by grind)
      grind

theorem rounds_neg {X v : Rat} (h : Rounds X v) : Rounds (-X) (-v) := by
  obtain ⟨s, m, p, rfl, rfl⟩ := h
  refine ⟨!s, m, p, ?_, ?_⟩ <;> cases s <;> simp [sg, Rat.neg_neg]

theorem le_rounds {X v : Rat} (h : Rounds X v) (k : Int) (e : Int) (hk : k.natAbs ≤ 2 ^ 53) (he : -1074 ≤ e) (hz : (k : Rat) * pw e ≤ X) : (k : Rat) * pw e ≤ v := by
  have := rounds_le (rounds_neg h) (-k) e (by omega) he (by rw [Rat.intCast_neg, Rat.neg_mul]; exact Rat.neg_le_neg hz)
  rw [Rat.intCast_neg, Rat.neg_mul] at this
  exact neg_le_of this

/-- A number that the format has is its own rounding. -/
theorem rounds_exact {X v : Rat} (h : Rounds X v) (k : Int) (e : Int) (hk : k.natAbs ≤ 2 ^ 53) (he : -1074 ≤ e) (hz : X = (k : Rat) * pw e) : v = X :=
  Rat.le_antisymm (by rw [hz]; exact rounds_le h k e hk he (hz ▸ Rat.le_refl)) (by rw [hz]; exact le_rounds h k e hk he (hz ▸ Rat.le_refl))

theorem rounds_rel {X v : Rat} (h : Rounds X v) (hX : pw (-1022) ≤ X) : v ≤ X * (1 + pw (-53)) ∧ X * (1 - pw (-53)) ≤ v := by
  obtain ⟨s, m, p, rfl, rfl⟩ := h
  have h1 := pw_pos (-1022)
  have hp : (0 : Rat) ≤ (m : Rat) * pw p := Rat.mul_nonneg Rat.natCast_nonneg (pw_nonneg p)
  cases s
  · exact near_rel m p hX
  · unfold sg at hX; simp only [↓reduceIte] at hX; exfalso; grind

theorem signed_abs (t : Int) : ((t.natAbs : Nat) : Rat) = if t < 0 then -(t : Rat) else (t : Rat) := by
  split
  · rw [← Rat.intCast_natCast, ← Rat.intCast_neg]; congr 1; omega
  · rw [← Rat.intCast_natCast]; congr 1; omega

/-- A whole number of units, written. -/
theorem write_int (z : Bool) (T B : Int) (X : Rat) (hX : X = (T : Rat) * pw B) (h1 : X < pw 1023) (h2 : -(pw 1023) < X) :
    ∃ v, Is (double.write (.number (if T = 0 then z else decide (T < 0)) T.natAbs B)) v ∧ Rounds X v := by
  subst hX
  have ha := signed_abs T
  by_cases hT : T = 0
  · subst hT
    refine ⟨_, write_is _ _ _ (by simpa using pw_pos 1023), ⟨z, 0, B, ?_, rfl⟩⟩
    simp [sg]
  · rw [if_neg hT]
    by_cases c : T < 0
    · rw [if_pos c] at ha
      refine ⟨_, write_is _ _ _ ?_, ⟨decide (T < 0), T.natAbs, B, ?_, rfl⟩⟩
      · rw [ha, Rat.neg_mul]; grind
      · rw [ha]; unfold sg; rw [if_pos (by simpa using c), Rat.neg_mul, Rat.neg_neg]
    · rw [if_neg c] at ha
      refine ⟨_, write_is _ _ _ ?_, ⟨decide (T < 0), T.natAbs, B, ?_, rfl⟩⟩
      · rw [ha]; exact h1
      · rw [ha]; unfold sg; rw [if_neg (by simpa using c)]

theorem sum_is (s : Bool) (m : Nat) (i : Int) (t : Bool) (n : Nat) (j : Int) (h1 : val (.number s m i) + val (.number t n j) < pw 1023) (h2 : -(pw 1023) < val (.number s m i) + val (.number t n j)) :
    ∃ r v, ((Datum.number s m i).sum (.number t n j)).map double.write = some r ∧ Is r v ∧ Rounds (val (.number s m i) + val (.number t n j)) v := by
  have e1 := signed_val s m i (min i j) (by omega)
  have e2 := signed_val t n j (min i j) (by omega)
  unfold Datum.sum
  simp only [Option.map_some]
  obtain ⟨v, hv, hr⟩ := write_int (s && t) (signed s m (i - min i j).toNat + signed t n (j - min i j).toNat) (min i j) _ (by rw [Rat.intCast_add, Rat.add_mul, e1, e2]) h1 h2
  exact ⟨_, v, rfl, hv, hr⟩

/-- A sum of two numbers. -/
theorem add_is {x y : Nat} {a b : Rat} (hx : Is x a) (hy : Is y b) (h1 : a + b < pw 1023) (h2 : -(pw 1023) < a + b) : ∃ r v, double.add x y = some r ∧ Is r v ∧ Rounds (a + b) v := by
  obtain ⟨s, m, i, hx, rfl, _⟩ := hx
  obtain ⟨t, n, j, hy, rfl, _⟩ := hy
  unfold Format.add
  rw [hx, hy]
  exact sum_is s m i t n j h1 h2

theorem opp_val (d : Datum) : val d.opposite = - val d := by
  cases d with
  | number s m e => cases s <;> simp [Datum.opposite, val]
  | infinity s => simp [Datum.opposite, val]
  | nan s t => simp [Datum.opposite, val]

theorem sub_is {x y : Nat} {a b : Rat} (hx : Is x a) (hy : Is y b) (h1 : a - b < pw 1023) (h2 : -(pw 1023) < a - b) : ∃ r v, double.sub x y = some r ∧ Is r v ∧ Rounds (a - b) v := by
  obtain ⟨s, m, i, hx, rfl, _⟩ := hx
  obtain ⟨t, n, j, hy, rfl, _⟩ := hy
  have e3 : val (.number s m i) - val (.number t n j) = val (.number s m i) + val (.number (!t) n j) := by
    have := opp_val (.number t n j)
    simp only [Datum.opposite] at this
    rw [this, Rat.sub_eq_add_neg]
  rw [e3] at h1 h2 ⊢
  unfold Format.sub
  rw [hx, hy]
  exact sum_is s m i (!t) n j h1 h2

theorem mul_is {x y : Nat} {a b : Rat} (hx : Is x a) (hy : Is y b) (h1 : a * b < pw 1023) (h2 : -(pw 1023) < a * b) : ∃ r v, double.mul x y = some r ∧ Is r v ∧ Rounds (a * b) v := by
  obtain ⟨s, m, i, hx, ha, _⟩ := hx
  obtain ⟨t, n, j, hy, hb, _⟩ := hy
  have e : a * b = sg (s ^^ t) (((m * n : Nat) : Rat) * pw (i + j)) := by
    rw [← ha, ← hb]
    unfold val sg
    rw [pw_add, Rat.natCast_mul]
    cases s <;> cases t <;> simp <;> grind
  rw [e] at h1 h2
  unfold Format.mul
  rw [hx, hy]
  unfold Datum.product
  simp only [Option.map_some]
  refine ⟨_, _, rfl, write_is _ _ _ ?_, ⟨s ^^ t, m * n, i + j, e, rfl⟩⟩
  unfold sg at h1 h2
  split at h1
  · rename_i c; rw [if_pos c] at h2; grind
  · exact h1

/-- The whole numbers that a double writes. -/
theorem int_is (n : Int) (h : n.natAbs ≤ 2 ^ 53) : Is (double.write (.number (n < 0) n.natAbs 0)) (n : Rat) := by
  have hX : (n.natAbs : Rat) * pw 0 < pw 1023 := by
    rw [pw_zero, Rat.mul_one]
    have : (n.natAbs : Rat) ≤ ((2 ^ 53 : Nat) : Rat) := Rat.natCast_le_natCast.2 h
    rw [← pw_nat] at this
    refine Rat.not_le.1 fun hh => ?_
    have h3 := Rat.le_trans hh this
    have h4 : pw 53 < pw 54 := by rw [show (54 : Int) = 53 + 1 from rfl, pw_succ]; have := pw_pos 53; grind
    exact absurd (Rat.le_trans (pw_le (show (54 : Int) ≤ 1023 by omega)) h3) (Rat.not_le.2 h4)
  have hw := write_is (decide (n < 0)) n.natAbs 0 hX
  rw [near_exact n.natAbs 0 n.natAbs 0 h (by omega) rfl, pw_zero, Rat.mul_one, signed_abs] at hw
  have e : sg (decide (n < 0)) (if n < 0 then -(n : Rat) else (n : Rat)) = (n : Rat) := by
    unfold sg
    by_cases c : n < 0
    · simp [c, Rat.neg_neg]
    · simp [c]
  rw [e] at hw
  exact hw

/-- v is near X: within one part of 2 to the power of 52. -/
def Near (X v : Rat) : Prop := v ≤ X * (1 + pw (-52)) ∧ X * (1 - pw (-52)) ≤ v

theorem pw_lt {a b : Int} (h : a < b) : pw a < pw b := by
  have h1 := pw_le (show a + 1 ≤ b by omega)
  rw [pw_succ] at h1
  have := pw_pos a
  grind

theorem pw_m1 : pw (-1) = 1 / 2 := by have h := pw_succ (-1); rw [show (-1 : Int) + 1 = 0 from rfl, pw_zero] at h; grind
theorem pw_m2 : pw (-2) = 1 / 4 := by have h := pw_succ (-2); rw [show (-2 : Int) + 1 = -1 from rfl, pw_m1] at h; grind
theorem cast_le_pw {n k : Nat} (h : n ≤ 2 ^ k) : (n : Rat) ≤ pw k := by rw [pw_nat]; exact Rat.natCast_le_natCast.2 h
theorem pw_le_cast {n k : Nat} (h : 2 ^ k ≤ n) : pw k ≤ (n : Rat) := by rw [pw_nat]; exact Rat.natCast_le_natCast.2 h

/-- What is near a number, rounded, is near it. -/
theorem near_of (X Y v : Rat) (hY1 : Y ≤ X * (1 + pw (-54))) (hY2 : X * (1 - pw (-54)) ≤ Y) (hX : pw (-1021) ≤ X) (h : v ≤ Y * (1 + pw (-53)) ∧ Y * (1 - pw (-53)) ≤ v) : Near X v := by
  have e1 : pw (-52) = 4 * pw (-54) := by rw [show (-52 : Int) = -54 + 1 + 1 from rfl, pw_succ, pw_succ]; grind
  have e2 : pw (-53) = 2 * pw (-54) := by rw [show (-53 : Int) = -54 + 1 from rfl, pw_succ]
  have h0 : 0 ≤ X := Rat.le_trans (pw_nonneg _) hX
  have hd := pw_pos (-54)
  have hd1 : pw (-54) ≤ 1 / 4 := by
    have : pw (-54) ≤ pw (-2) := pw_le (by omega)
    rwa [pw_m2] at this
  unfold Near
  rw [e1]
  rw [e2] at h
  generalize pw (-54) = d at *
  have hXd : 0 ≤ X * d := Rat.mul_nonneg h0 (Rat.le_of_lt hd)
  have hXdd : X * d * d ≤ X * d * (1 / 4) := Rat.mul_le_mul_of_nonneg_left hd1 hXd
  have hXdd0 : 0 ≤ X * d * d := Rat.mul_nonneg hXd (Rat.le_of_lt hd)
  have a1 : Y * (1 + 2 * d) ≤ X * (1 + d) * (1 + 2 * d) := Rat.mul_le_mul_of_nonneg_right hY1 (by grind)
  have a2 : X * (1 - d) * (1 - 2 * d) ≤ Y * (1 - 2 * d) := Rat.mul_le_mul_of_nonneg_right hY2 (by grind)
  constructor
  · refine Rat.le_trans h.1 (Rat.le_trans a1 ?_)
    grind
  · refine Rat.le_trans (Rat.le_trans ?_ a2) h.2
    grind

theorem log2_bounds (n : Nat) (h : n ≠ 0) : 2 ^ n.log2 ≤ n ∧ n < 2 ^ (n.log2 + 1) := ⟨Nat.log2_self_le h, Nat.lt_log2_self⟩

theorem shl_big (m n digits : Nat) (hm : m ≠ 0) (hn : n ≠ 0) (hd : m.log2 ≤ digits + n.log2) : n * 2 ^ (digits - 1) ≤ m <<< (digits + n.log2 - m.log2) ∨ digits = 0 := by
  rcases Nat.eq_zero_or_pos digits with c | c
  · exact .inr c
  · left
    rw [Nat.shiftLeft_eq]
    have h1 := (log2_bounds m hm).1
    have h2 := (log2_bounds n hn).2
    calc n * 2 ^ (digits - 1) ≤ 2 ^ (n.log2 + 1) * 2 ^ (digits - 1) := Nat.mul_le_mul_right _ (Nat.le_of_lt h2)
      _ = 2 ^ m.log2 * 2 ^ (digits + n.log2 - m.log2) := by rw [← Nat.pow_add, ← Nat.pow_add]; congr 1; omega
      _ ≤ m * 2 ^ (digits + n.log2 - m.log2) := Nat.mul_le_mul_right _ h1

theorem pw_shift (p : Int) : pw ((53 : Nat) : Int) * (2 * pw p) * pw (-54) = pw p := by
  rw [← pw_succ, ← pw_add, ← pw_add]; congr 1; omega

/-- The quotient of two numbers, the second above 0, the first not below. -/
theorem div_is {x y : Nat} {a b : Rat} (hx : Is x a) (hy : Is y b) (ha : 0 ≤ a) (hb : 0 < b) (hlo : a = 0 ∨ pw (-1021) * b ≤ a) (hhi : a ≤ pw 1000 * b) :
    ∃ r v, double.div x y = some r ∧ Is r v ∧ Near (a / b) v ∧ 0 ≤ v := by
  obtain ⟨s, m, i, hx, rfl, hm53, _⟩ := hx
  obtain ⟨t, n, j, hy, rfl, _⟩ := hy
  have hn : n ≠ 0 := by
    rintro rfl
    have : val (.number t 0 j) = 0 := by unfold val; simp
    rw [this] at hb
    exact Rat.lt_irrefl hb
  have ht : t = false := by
    cases t
    · rfl
    · exfalso
      unfold val at hb
      have : (0 : Rat) ≤ (n : Rat) * pw j := Rat.mul_nonneg Rat.natCast_nonneg (pw_nonneg j)
      simp only [↓reduceIte] at hb
      grind
  subst ht
  have hbv : val (.number false n j) = (n : Rat) * pw j := rfl
  rw [hbv] at hb hlo hhi ⊢
  unfold Format.div
  rw [hx, hy]
  unfold Datum.quotient
  simp only [if_neg hn, Option.map_some]
  by_cases hm : m = 0
  · subst hm
    have hv : val (.number s 0 i) = 0 := by unfold val; simp
    rw [hv]
    have e0 : (0 : Nat) <<< (double.fractionBits + 2 + n.log2 - Nat.log2 0) = 0 := Nat.zero_shiftLeft _
    rw [e0, Nat.zero_div, Nat.zero_mod]
    have hw := write_is (s ^^ false) 0 (i - j - ((double.fractionBits + 2 + n.log2 - Nat.log2 0 : Nat) : Int) - 1) (by simpa using pw_pos 1023)
    rw [near_zero] at hw
    have e1 : sg (s ^^ false) 0 = 0 := by unfold sg; simp
    rw [e1] at hw
    refine ⟨_, 0, rfl, hw, ?_, Rat.le_refl⟩
    unfold Near
    rw [Rat.div_def]
    simp
  · have hs : s = false := by
      cases s
      · rfl
      · exfalso
        unfold val at ha
        have h1 : (0 : Rat) < (m : Rat) * pw i := Rat.mul_pos (Rat.natCast_pos.2 (Nat.pos_of_ne_zero hm)) (pw_pos i)
        simp only [↓reduceIte] at ha
        grind
    subst hs
    have hav : val (.number false m i) = (m : Rat) * pw i := rfl
    rw [hav] at ha hlo hhi ⊢
    have hf : double.fractionBits + 2 = 54 := rfl
    rw [hf]
    have hml : m.log2 ≤ 54 + n.log2 := by
      have := (Nat.log2_lt hm).2 hm53
      omega
    generalize hmore : 54 + n.log2 - m.log2 = more
    have hbig : n * 2 ^ 53 ≤ m <<< more := by
      have := shl_big m n 54 hm hn hml
      rw [hmore] at this
      omega
    have hD : ((m <<< more : Nat) : Rat) = (m : Rat) * pw more := by rw [Nat.shiftLeft_eq, Rat.natCast_mul, pw_nat]
    generalize m <<< more = D at *
    have hdm := Nat.div_add_mod D n
    have hlt := Nat.mod_lt D (Nat.pos_of_ne_zero hn)
    generalize D / n = q at *
    generalize D % n = r at *
    -- X = a / b = D / n * 2 ^ (i - j - more)
    generalize hp : i - j - (more : Int) - 1 = p
    have hX : (m : Rat) * pw i / ((n : Rat) * pw j) * (n : Rat) = (D : Rat) * (2 * pw p) := by
      have hbn : (n : Rat) * pw j ≠ 0 := fun h => Rat.lt_irrefl (h ▸ hb)
      have e1 : (m : Rat) * pw i / ((n : Rat) * pw j) * ((n : Rat) * pw j) = (m : Rat) * pw i := Rat.div_mul_cancel hbn
      have e2 : pw i = pw more * (2 * pw p) * pw j := by
        rw [← pw_succ, ← pw_add, ← pw_add]; congr 1; omega
      rw [e2] at e1
      have e3 : ((m : Rat) * (pw more * (2 * pw p) * pw j) / ((n : Rat) * pw j) * (n : Rat)) * pw j = ((D : Rat) * (2 * pw p)) * pw j := by
        rw [hD]; grind
      rw [e2]
      have hj := pw_ne j
      have : ((m : Rat) * (pw more * (2 * pw p) * pw j) / ((n : Rat) * pw j) * (n : Rat)) * pw j / pw j = ((D : Rat) * (2 * pw p)) * pw j / pw j := by rw [e3]
      rwa [Rat.mul_div_cancel hj, Rat.mul_div_cancel hj] at this
    have hlo' : pw (-1021) ≤ (m : Rat) * pw i / ((n : Rat) * pw j) := by
      rcases hlo with h | h
      · exfalso
        have h1 : (0 : Rat) < (m : Rat) * pw i := Rat.mul_pos (Rat.natCast_pos.2 (Nat.pos_of_ne_zero hm)) (pw_pos i)
        rw [h] at h1; exact Rat.lt_irrefl h1
      · refine Rat.not_lt.1 fun hh => ?_
        have := (Rat.div_lt_iff hb).1 hh
        exact absurd h (Rat.not_le.2 this)
    have hhi' : (m : Rat) * pw i / ((n : Rat) * pw j) ≤ pw 1000 := by
      refine Rat.not_lt.1 fun hh => ?_
      have := (Rat.lt_div_iff hb).1 hh
      exact absurd hhi (Rat.not_le.2 this)
    generalize (m : Rat) * pw i / ((n : Rat) * pw j) = X at *
    have hn0 : (0 : Rat) < n := Rat.natCast_pos.2 (Nat.pos_of_ne_zero hn)
    -- the digits told: Y
    generalize hQ : 2 * q + (r != 0).toNat = Q
    have hQ1 : 2 * D ≤ n * (Q + 1) ∧ n * Q ≤ 2 * D + n := by
      rw [← hQ, ← hdm]
      have hc : (r != 0).toNat = 0 ∧ r = 0 ∨ (r != 0).toNat = 1 ∧ 0 < r := by
        by_cases c : r = 0
        · left; simp [c]
        · right; simp [c]; omega
      rcases hc with ⟨c, c'⟩ | ⟨c, c'⟩ <;> rw [c]
      · subst c'; constructor <;> simp only [Nat.mul_add, Nat.mul_one, Nat.add_zero] <;> have : n * (2 * q) = 2 * (n * q) := Nat.mul_left_comm _ _ _ <;> omega
      · constructor <;> simp only [Nat.mul_add, Nat.mul_one] <;> have : n * (2 * q) = 2 * (n * q) := Nat.mul_left_comm _ _ _ <;> omega
    have c1 : ((2 * D : Nat) : Rat) ≤ ((n * (Q + 1) : Nat) : Rat) := Rat.natCast_le_natCast.2 hQ1.1
    have c2 : ((n * Q : Nat) : Rat) ≤ ((2 * D + n : Nat) : Rat) := Rat.natCast_le_natCast.2 hQ1.2
    have c3 : ((n * 2 ^ 53 : Nat) : Rat) ≤ (D : Rat) := Rat.natCast_le_natCast.2 hbig
    simp only [Rat.natCast_mul, Rat.natCast_add, Rat.natCast_ofNat] at c1 c2 c3
    rw [← pw_nat] at c3
    have hpp := pw_pos p
    -- X n = D 2 p' : so X in units
    have u1 : X ≤ ((Q : Rat) + 1) * pw p := by
      have : X * (n : Rat) ≤ ((Q : Rat) + 1) * pw p * n := by
        rw [hX]
        have := Rat.mul_le_mul_of_nonneg_right c1 (Rat.le_of_lt hpp)
        grind
      exact Rat.le_of_mul_le_mul_right this hn0
    have u2 : (Q : Rat) * pw p ≤ X + pw p := by
      have : (Q : Rat) * pw p * (n : Rat) ≤ (X + pw p) * n := by
        rw [Rat.add_mul, hX]
        have := Rat.mul_le_mul_of_nonneg_right c2 (Rat.le_of_lt hpp)
        grind
      exact Rat.le_of_mul_le_mul_right this hn0
    have u3 : pw p ≤ X * pw (-54) := by
      have : pw ((53 : Nat) : Int) * (2 * pw p) * n ≤ X * n := by
        rw [hX]
        have := Rat.mul_le_mul_of_nonneg_right c3 (show 0 ≤ 2 * pw p by grind)
        grind
      have h2 := Rat.le_of_mul_le_mul_right this hn0
      have e := pw_shift p
      have h3 := Rat.mul_le_mul_of_nonneg_right h2 (pw_nonneg (-54))
      rwa [e] at h3
    have y1 : (Q : Rat) * pw p ≤ X * (1 + pw (-54)) := by grind
    have y2 : X * (1 - pw (-54)) ≤ (Q : Rat) * pw p := by grind
    have hYlo : pw (-1022) ≤ (Q : Rat) * pw p := by
      refine Rat.le_trans ?_ y2
      have e : pw (-1021) = 2 * pw (-1022) := by rw [show (-1021 : Int) = -1022 + 1 from rfl, pw_succ]
      have hq : pw (-54) ≤ 1 / 2 := by
        have : pw (-54) ≤ pw (-1) := pw_le (by omega)
        rwa [pw_m1] at this
      have h0 : 0 ≤ X := Rat.le_trans (pw_nonneg _) hlo'
      have := Rat.mul_le_mul_of_nonneg_left hq h0
      grind
    have hYhi : (Q : Rat) * pw p < pw 1023 := by
      refine Rat.not_le.1 fun hh => ?_
      have h1 := Rat.le_trans hh y1
      have hq : pw (-54) ≤ 1 := by
        have : pw (-54) ≤ pw 0 := pw_le (by omega)
        rwa [pw_zero] at this
      have h0 : 0 ≤ X := Rat.le_trans (pw_nonneg _) hlo'
      have h2 := Rat.mul_le_mul_of_nonneg_left hq h0
      have h3 : pw 1001 = 2 * pw 1000 := by rw [show (1001 : Int) = 1000 + 1 from rfl, pw_succ]
      have h4 := pw_lt (show (1001 : Int) < 1023 by omega)
      grind
    have hw := write_is (false ^^ false) Q p hYhi
    have hnr := near_rel Q p hYlo
    have hv0 : 0 ≤ near Q p := Rat.mul_nonneg Rat.natCast_nonneg (pw_nonneg _)
    exact ⟨_, near Q p, rfl, hw, near_of X _ _ y1 y2 hlo' hnr, hv0⟩

theorem rootFrom_spec (n : Nat) : ∀ (todo root : Nat), root * root ≤ n → n < (root + 2 ^ todo) * (root + 2 ^ todo) →
    Datum.rootFrom n todo root * Datum.rootFrom n todo root ≤ n ∧ n < (Datum.rootFrom n todo root + 1) * (Datum.rootFrom n todo root + 1) := by
  intro todo
  induction todo with
  | zero => intro root h1 h2; exact ⟨h1, by simpa [Datum.rootFrom] using h2⟩
  | succ todo ih =>
    intro root h1 h2
    unfold Datum.rootFrom
    simp only [Nat.one_shiftLeft]
    split
    · rename_i c
      refine ih _ c ?_
      rw [Nat.add_assoc, ← Nat.two_mul, ← Nat.pow_succ']
      exact h2
    · rename_i c
      exact ih _ h1 (by omega)

theorem root_spec (n : Nat) : Datum.rootFrom n (n.log2 / 2 + 1) 0 * Datum.rootFrom n (n.log2 / 2 + 1) 0 ≤ n ∧ n < (Datum.rootFrom n (n.log2 / 2 + 1) 0 + 1) * (Datum.rootFrom n (n.log2 / 2 + 1) 0 + 1) := by
  refine rootFrom_spec n _ 0 (by simp) ?_
  rw [Nat.zero_add, ← Nat.pow_add]
  exact Nat.lt_of_lt_of_le Nat.lt_log2_self (Nat.pow_le_pow_right (by omega) (by omega))

theorem rat_le_of_sq {a b : Rat} (hb : 0 ≤ b) (h : a * a ≤ b * b) : a ≤ b := by
  refine Rat.not_lt.1 fun hh => ?_
  have h0 : 0 < a := by grind
  have h1 : b * b ≤ a * b := Rat.mul_le_mul_of_nonneg_right (Rat.le_of_lt hh) hb
  have h2 : a * b < a * a := Rat.mul_lt_mul_of_pos_left hh h0
  grind

theorem sq_le {a b : Rat} (ha : 0 ≤ a) (h : a ≤ b) : a * a ≤ b * b := by
  have h1 : a * a ≤ a * b := Rat.mul_le_mul_of_nonneg_left h ha
  have h2 : a * b ≤ b * b := Rat.mul_le_mul_of_nonneg_right h (by grind)
  exact Rat.le_trans h1 h2

theorem pw_m54_small : 0 < pw (-54) ∧ pw (-54) ≤ 1 / 1024 := by
  refine ⟨pw_pos _, ?_⟩
  have h1 : pw (-54) ≤ pw (-10) := pw_le (by omega)
  have e : pw (-10) = 1 / 1024 := by
    have h2 : pw (-10) * pw ((10 : Nat) : Int) = 1 := by rw [← pw_add]; exact pw_zero
    rw [pw_nat] at h2
    have e2 : ((2 ^ 10 : Nat) : Rat) = 1024 := by simp only [Nat.reducePow, Rat.natCast_ofNat]
    rw [e2] at h2
    grind
  rwa [e] at h1

theorem pw_m53 : pw (-53) = 2 * pw (-54) := by rw [show (-53 : Int) = -54 + 1 from rfl, pw_succ]
theorem pw_m51 : pw (-51) = 8 * pw (-54) := by rw [show (-51 : Int) = -54 + 1 + 1 + 1 from rfl, pw_succ, pw_succ, pw_succ]; grind

theorem sq_up {t Y v d : Rat} (hd0 : 0 < d) (hd1 : d ≤ 1 / 1024) (ht : 0 ≤ t) (hv0 : 0 ≤ v) (hY : Y * Y ≤ t * ((1 + d) * (1 + d))) (hv : v ≤ Y * (1 + 2 * d)) : v * v ≤ t * (1 + 8 * d) := by
  have h1 := sq_le hv0 hv
  have h2 : Y * Y * ((1 + 2 * d) * (1 + 2 * d)) ≤ t * ((1 + d) * (1 + d)) * ((1 + 2 * d) * (1 + 2 * d)) := Rat.mul_le_mul_of_nonneg_right hY (Rat.mul_nonneg (by grind) (by grind))
  have h3 : (1 + d) * (1 + d) * ((1 + 2 * d) * (1 + 2 * d)) ≤ 1 + 8 * d := by
    have a1 : d * d ≤ d * (1 / 1024) := Rat.mul_le_mul_of_nonneg_left hd1 (Rat.le_of_lt hd0)
    have a2 : 0 ≤ d * d := Rat.mul_nonneg (Rat.le_of_lt hd0) (Rat.le_of_lt hd0)
    have a3 : d * d * d ≤ d * d * (1 / 1024) := Rat.mul_le_mul_of_nonneg_left hd1 a2
    have a4 : 0 ≤ d * d * d := Rat.mul_nonneg a2 (Rat.le_of_lt hd0)
    have a5 : d * d * d * d ≤ d * d * d * (1 / 1024) := Rat.mul_le_mul_of_nonneg_left hd1 a4
    grind
  have h4 := Rat.mul_le_mul_of_nonneg_left h3 ht
  grind

theorem sq_down {t Y v d : Rat} (hd0 : 0 < d) (hd1 : d ≤ 1 / 1024) (ht : 0 ≤ t) (hY0 : 0 ≤ Y) (hY : t ≤ Y * Y * ((1 + d) * (1 + d))) (hv : Y * (1 - 2 * d) ≤ v) : t * (1 - 8 * d) ≤ v * v := by
  have h1 := sq_le (Rat.mul_nonneg hY0 (by grind : (0 : Rat) ≤ 1 - 2 * d)) hv
  have hp : (0 : Rat) < (1 + d) * (1 + d) := Rat.mul_pos (by grind) (by grind)
  refine Rat.le_of_mul_le_mul_right (c := (1 + d) * (1 + d)) ?_ hp
  have h2 : Y * (1 - 2 * d) * (Y * (1 - 2 * d)) * ((1 + d) * (1 + d)) ≤ v * v * ((1 + d) * (1 + d)) := Rat.mul_le_mul_of_nonneg_right h1 (Rat.le_of_lt hp)
  have h3 : t * ((1 - 2 * d) * (1 - 2 * d)) ≤ Y * Y * ((1 + d) * (1 + d)) * ((1 - 2 * d) * (1 - 2 * d)) := Rat.mul_le_mul_of_nonneg_right hY (Rat.mul_nonneg (by grind) (by grind))
  have h4 : (1 - 8 * d) * ((1 + d) * (1 + d)) ≤ (1 - 2 * d) * (1 - 2 * d) := by
    have a1 : d * d ≤ d * (1 / 1024) := Rat.mul_le_mul_of_nonneg_left hd1 (Rat.le_of_lt hd0)
    have a2 : 0 ≤ d * d := Rat.mul_nonneg (Rat.le_of_lt hd0) (Rat.le_of_lt hd0)
    have a4 : 0 ≤ d * d * d := Rat.mul_nonneg a2 (Rat.le_of_lt hd0)
    grind
  have h5 := Rat.mul_le_mul_of_nonneg_left h4 ht
  grind

theorem half_even (i : Int) (k : Nat) : (i - ((k + ((i - (k : Int)) % 2).toNat : Nat) : Int)) % 2 = 0 := by omega

/-- The root of a number from 1 to 4. -/
theorem sqrt_is {x : Nat} {t : Rat} (hx : Is x t) (h1 : 1 ≤ t) (h4 : t ≤ 4) :
    ∃ r v, double.sqrt x = some r ∧ Is r v ∧ 0 ≤ v ∧ v * v ≤ t * (1 + pw (-51)) ∧ t * (1 - pw (-51)) ≤ v * v := by
  obtain ⟨s, m, i, hx, ht, hm53, _⟩ := hx
  have hm : m ≠ 0 := by
    rintro rfl
    have : val (.number s 0 i) = 0 := by unfold val; simp
    rw [this] at ht; rw [← ht] at h1
    exact absurd h1 (by decide)
  have hs : s = false := by
    cases s
    · rfl
    · exfalso
      unfold val at ht
      have : (0 : Rat) ≤ (m : Rat) * pw i := Rat.mul_nonneg Rat.natCast_nonneg (pw_nonneg i)
      simp only [↓reduceIte] at ht
      grind
  subst hs
  have htv : t = (m : Rat) * pw i := ht.symm
  unfold Format.sqrt
  rw [hx]
  unfold Datum.root
  simp only [if_neg hm, Bool.false_eq_true, ↓reduceIte, Option.map_some]
  have hf : 2 * (double.fractionBits + 2) = 108 := rfl
  rw [hf]
  have hev := half_even i (108 - m.log2)
  have hl : m.log2 < 53 := (Nat.log2_lt hm).2 hm53
  generalize hmore : 108 - m.log2 + ((i - ((108 - m.log2 : Nat) : Int)) % 2).toNat = more at *
  have hnl : 2 ^ 108 ≤ m <<< more := by
    rw [Nat.shiftLeft_eq]
    have a1 := (log2_bounds m hm).1
    calc 2 ^ 108 ≤ 2 ^ (m.log2 + more) := Nat.pow_le_pow_right (by omega) (by omega)
      _ = 2 ^ m.log2 * 2 ^ more := Nat.pow_add _ _ _
      _ ≤ m * 2 ^ more := Nat.mul_le_mul_right _ a1
  have hN : ((m <<< more : Nat) : Rat) = (m : Rat) * pw more := by rw [Nat.shiftLeft_eq, Rat.natCast_mul, pw_nat]
  generalize m <<< more = n at *
  have hr := root_spec n
  generalize Datum.rootFrom n (n.log2 / 2 + 1) 0 = k at *
  have hk : 2 ^ 54 ≤ k := by
    rcases Nat.lt_or_ge k (2 ^ 54) with c | c
    · exfalso
      have : (k + 1) * (k + 1) ≤ 2 ^ 54 * 2 ^ 54 := Nat.mul_le_mul c c
      omega
    · exact c
  generalize hH : (i - (more : Int)) / 2 = h at *
  have hQ : ∃ b : Nat, b ≤ 1 ∧ 2 * k + (k * k != n).toNat = 2 * k + b := ⟨_, by cases (k * k != n) <;> simp, rfl⟩
  obtain ⟨b, hb, hQe⟩ := hQ
  rw [hQe]
  have et : t = (n : Rat) * (pw h * pw h) := by
    rw [htv, hN, ← pw_add, Rat.mul_assoc, ← pw_add]
    congr 2; omega
  have hph := pw_pos h
  have c1 : ((k * k : Nat) : Rat) ≤ (n : Rat) := Rat.natCast_le_natCast.2 hr.1
  have c2 : (n : Rat) ≤ (((k + 1) * (k + 1) : Nat) : Rat) := Rat.natCast_le_natCast.2 (Nat.le_of_lt hr.2)
  have c3 : pw ((54 : Nat) : Int) ≤ (k : Rat) := pw_le_cast hk
  have c4 : (((2 * k + b : Nat)) : Rat) = 2 * (k : Rat) + (b : Rat) := by rw [Rat.natCast_add, Rat.natCast_mul]; rfl
  have c5 : (b : Rat) ≤ 1 := by have := Rat.natCast_le_natCast.2 hb; exact this
  have c6 : (0 : Rat) ≤ b := Rat.natCast_nonneg
  have c7 : (0 : Rat) ≤ k := Rat.natCast_nonneg
  simp only [Rat.natCast_mul, Rat.natCast_add] at c1 c2
  have one : ((1 : Nat) : Rat) = 1 := rfl
  rw [one] at c2
  have hd := pw_m54_small
  -- pw h ≤ k * pw h * d
  have u0 : pw h ≤ (k : Rat) * pw h * pw (-54) := by
    have a1 := Rat.mul_le_mul_of_nonneg_right c3 (Rat.le_of_lt (Rat.mul_pos hph hd.1))
    have a2 : pw ((54 : Nat) : Int) * (pw h * pw (-54)) = pw h := by rw [← pw_add, ← pw_add]; congr 1; omega
    rw [a2] at a1
    grind
  have hh : pw h = 2 * pw (h - 1) := by rw [← pw_succ]; congr 1; omega
  have hY : (((2 * k + b : Nat)) : Rat) * pw (h - 1) = (k : Rat) * pw h + (b : Rat) * pw (h - 1) := by rw [c4, hh]; grind
  have hY1 : (k : Rat) * pw h ≤ ((2 * k + b : Nat) : Rat) * pw (h - 1) := by
    rw [hY]; have := Rat.mul_nonneg c6 (pw_nonneg (h - 1)); grind
  have hY2 : ((2 * k + b : Nat) : Rat) * pw (h - 1) ≤ (k : Rat) * pw h * (1 + pw (-54)) := by
    rw [hY]
    have a1 := Rat.mul_le_mul_of_nonneg_right c5 (pw_nonneg (h - 1))
    have a2 := pw_pos (h - 1)
    grind
  have hw0 : (0 : Rat) ≤ (k : Rat) * pw h := Rat.mul_nonneg c7 (Rat.le_of_lt hph)
  have hwt : (k : Rat) * pw h * ((k : Rat) * pw h) ≤ t := by
    rw [et]
    have := Rat.mul_le_mul_of_nonneg_right c1 (Rat.le_of_lt (Rat.mul_pos hph hph))
    grind
  have htw : t ≤ (k : Rat) * pw h * ((k : Rat) * pw h) * ((1 + pw (-54)) * (1 + pw (-54))) := by
    have a1 : t ≤ ((k : Rat) + 1) * pw h * (((k : Rat) + 1) * pw h) := by
      rw [et]
      have := Rat.mul_le_mul_of_nonneg_right c2 (Rat.le_of_lt (Rat.mul_pos hph hph))
      grind
    have a2 : ((k : Rat) + 1) * pw h ≤ (k : Rat) * pw h * (1 + pw (-54)) := by grind
    have a3 := sq_le (Rat.mul_nonneg (by grind) (Rat.le_of_lt hph)) a2
    refine Rat.le_trans a1 (Rat.le_trans a3 ?_)
    grind
  generalize hYY : ((2 * k + b : Nat) : Rat) * pw (h - 1) = Y at *
  generalize (k : Rat) * pw h = w at *
  have hY0 : 0 ≤ Y := Rat.le_trans hw0 hY1
  have ht0 : 0 ≤ t := by grind
  generalize hdd : pw (-54) = d at *
  have s1 : Y * Y ≤ t * ((1 + d) * (1 + d)) := by
    have a1 := sq_le hY0 hY2
    have a2 : w * w * ((1 + d) * (1 + d)) ≤ t * ((1 + d) * (1 + d)) := Rat.mul_le_mul_of_nonneg_right hwt (Rat.mul_nonneg (by grind) (by grind))
    grind
  have s2 : t ≤ Y * Y * ((1 + d) * (1 + d)) := by
    have a1 := sq_le hw0 hY1
    have a2 : w * w * ((1 + d) * (1 + d)) ≤ Y * Y * ((1 + d) * (1 + d)) := Rat.mul_le_mul_of_nonneg_right a1 (Rat.mul_nonneg (by grind) (by grind))
    exact Rat.le_trans htw a2
  have hpd : (1 + d) * (1 + d) ≤ 4 := by
    have a1 : (1 + d) * (1 + d) ≤ 2 * 2 := Rat.le_trans (Rat.mul_le_mul_of_nonneg_left (show 1 + d ≤ 2 by grind) (by grind)) (Rat.mul_le_mul_of_nonneg_right (show 1 + d ≤ 2 by grind) (by decide))
    grind
  have hYhalf : 1 / 2 ≤ Y := by
    refine rat_le_of_sq hY0 ?_
    have a1 := Rat.mul_le_mul_of_nonneg_left hpd (Rat.mul_nonneg hY0 hY0)
    grind
  have hYfour : Y ≤ 4 := by
    refine rat_le_of_sq (by decide) ?_
    have a1 := Rat.mul_le_mul_of_nonneg_left hpd ht0
    grind
  have hYlo : pw (-1022) ≤ Y := by
    have : pw (-1022) ≤ pw (-1) := pw_le (by omega)
    rw [pw_m1] at this
    exact Rat.le_trans this hYhalf
  have hYhi : Y < pw 1023 := by
    have a1 : pw 2 < pw 1023 := pw_lt (by omega)
    have a2 : pw 2 = 4 := by rw [show (2 : Int) = 0 + 1 + 1 from rfl, pw_succ, pw_succ, pw_zero]; grind
    grind
  rw [← hYY] at hYlo hYhi
  have hwr := write_is false (2 * k + b) (h - 1) hYhi
  have hnr := near_rel (2 * k + b) (h - 1) hYlo
  rw [hYY] at hnr
  have hv0 : 0 ≤ near (2 * k + b) (h - 1) := Rat.mul_nonneg Rat.natCast_nonneg (pw_nonneg _)
  rw [pw_m53, hdd] at hnr
  rw [pw_m51, hdd]
  exact ⟨_, near (2 * k + b) (h - 1), rfl, hwr, hv0, sq_up hd.1 hd.2 ht0 hv0 s1 hnr.1, sq_down hd.1 hd.2 ht0 hY0 s2 hnr.2⟩

/-- The magnitude of a word. -/
theorem abs_is {x : Nat} {a : Rat} (h : Is x a) : Is (x % 2 ^ 63) (if a < 0 then -a else a) := by
  obtain ⟨s, m, e, hx, ha, h1, h2, h3⟩ := h
  refine ⟨false, m, e, ?_, ?_, h1, h2, h3⟩
  · unfold Format.read at *
    simp only [signWeight_val, Nat.mod_mod] at *
    have e0 : (x % 2 ^ 63 / 2 ^ 63 % 2 == 1) = false := by rw [Nat.div_eq_of_lt (Nat.mod_lt _ (by decide))]; rfl
    rw [e0]
    split at hx
    · cases hx; rw [if_pos (by assumption)]
    · rename_i c
      rw [if_neg c]
      split at hx
      · cases hx; rw [if_pos (by assumption)]
      · split at hx <;> cases hx
  · rw [← ha]
    have hn : (0 : Rat) ≤ (m : Rat) * pw e := Rat.mul_nonneg Rat.natCast_nonneg (pw_nonneg e)
    unfold val
    cases s
    · simp only [Bool.false_eq_true, ↓reduceIte]
      rw [if_neg (Rat.not_lt.2 hn)]
    · simp only [Bool.false_eq_true, ↓reduceIte]
      split
      · rw [Rat.neg_neg]
      · grind

theorem is_zero {x : Nat} (h : Is x 0) (hx : x < 2 ^ 63) : x = 0 := by
  obtain ⟨s, m, e, hr, ha, _⟩ := h
  have hm : m = 0 := by
    rcases Nat.eq_zero_or_pos m with c | c
    · exact c
    · exfalso
      have : (0 : Rat) < (m : Rat) * pw e := Rat.mul_pos (Rat.natCast_pos.2 c) (pw_pos e)
      unfold val at ha
      split at ha <;> grind
  subst hm
  have hw : x = double.word false x := rfl
  rw [hw, read_word false x hx] at hr
  split at hr
  · cases hr; rfl
  · split at hr
    · simp only [Datum.number.injEq] at hr; omega
    · split at hr <;> cases hr

theorem is_lt_inf {x : Nat} {a : Rat} (h : Is x a) (hx : x < 2 ^ 63) : x < 2047 * 2 ^ 52 := by
  obtain ⟨s, m, e, hr, _⟩ := h
  have hw : x = double.word false x := rfl
  rw [hw, read_word false x hx] at hr
  split at hr
  · omega
  · split at hr
    · assumption
    · split at hr <;> cases hr

theorem one_is : Is 0x3FF0000000000000 1 := by
  refine ⟨false, 2 ^ 52, -52, by decide +kernel, ?_, by decide, by decide, by decide⟩
  unfold val
  simp only [Bool.false_eq_true, ↓reduceIte]
  rw [← pw_nat, ← pw_add]
  exact pw_zero

theorem mul_up {j k d : Rat} (hd0 : 0 < d) (hd1 : d ≤ 1 / 1024) (hj0 : 0 ≤ j) (hj : j ≤ 32) (_hk0 : 0 ≤ k) (hk : k ≤ 32) : (1 + j * d) * (1 + k * d) ≤ 1 + (j + k + 1) * d := by
  have a1 : j * k ≤ 32 * 32 := Rat.le_trans (Rat.mul_le_mul_of_nonneg_left hk hj0) (Rat.mul_le_mul_of_nonneg_right hj (by decide))
  have a2 : j * k * (d * d) ≤ 32 * 32 * (d * d) := Rat.mul_le_mul_of_nonneg_right a1 (Rat.mul_nonneg (Rat.le_of_lt hd0) (Rat.le_of_lt hd0))
  have a3 : d * d ≤ d * (1 / 1024) := Rat.mul_le_mul_of_nonneg_left hd1 (Rat.le_of_lt hd0)
  grind

theorem mul_down {j k d : Rat} (hd0 : 0 < d) (hj0 : 0 ≤ j) (hk0 : 0 ≤ k) : 1 - (j + k) * d ≤ (1 - j * d) * (1 - k * d) := by
  have a1 : 0 ≤ j * k * (d * d) := Rat.mul_nonneg (Rat.mul_nonneg hj0 hk0) (Rat.mul_nonneg (Rat.le_of_lt hd0) (Rat.le_of_lt hd0))
  grind

/-- A bound, times a bound. -/
theorem up_mul {x X y j k d : Rat} (hd0 : 0 < d) (hd1 : d ≤ 1 / 1024) (hj0 : 0 ≤ j) (hj : j ≤ 32) (hk0 : 0 ≤ k) (hk : k ≤ 32) (hX : 0 ≤ X) (h1 : x ≤ X * (1 + j * d)) (h2 : y ≤ x * (1 + k * d)) : y ≤ X * (1 + (j + k + 1) * d) := by
  have b1 : (0 : Rat) ≤ 1 + k * d := by have := Rat.mul_nonneg hk0 (Rat.le_of_lt hd0); grind
  have a1 := Rat.mul_le_mul_of_nonneg_right h1 b1
  have a2 := Rat.mul_le_mul_of_nonneg_left (mul_up hd0 hd1 hj0 hj hk0 hk) hX
  grind

theorem down_mul {x X y j k d : Rat} (hd0 : 0 < d) (hd1 : d ≤ 1 / 1024) (hj0 : 0 ≤ j) (hk0 : 0 ≤ k) (hk : k ≤ 32) (hX : 0 ≤ X) (h1 : X * (1 - j * d) ≤ x) (h2 : x * (1 - k * d) ≤ y) : X * (1 - (j + k) * d) ≤ y := by
  have b1 : (0 : Rat) ≤ 1 - k * d := by
    have a1 := Rat.mul_le_mul_of_nonneg_left hd1 hk0
    grind
  have a1 := Rat.mul_le_mul_of_nonneg_right h1 b1
  have a2 := Rat.mul_le_mul_of_nonneg_left (mul_down hd0 hj0 hk0) hX
  grind

theorem down_nonneg {j d : Rat} (hd1 : d ≤ 1 / 1024) (hj0 : 0 ≤ j) (hj : j ≤ 32) : (0 : Rat) ≤ 1 - j * d := by
  have a1 := Rat.mul_le_mul_of_nonneg_left hd1 hj0
  grind

/-- The errors of a hypotenuse, step by step: no doubles in sight. -/
theorem hyp_up {s g W r y t u n d : Rat} (hd0 : 0 < d) (hd1 : d ≤ 1 / 1024) (hg : 0 < g) (hs : 0 ≤ s) (hW0 : 0 ≤ W) (hW : s * s + g * g = W * W)
    (hr0 : 0 ≤ r) (hu0 : 0 ≤ u) (hn0 : 0 ≤ n) (hr : r ≤ s / g * (1 + 4 * d)) (hy : y ≤ r * r * (1 + 2 * d)) (ht : t ≤ (y + 1) * (1 + 2 * d)) (hu : u * u ≤ t * (1 + 8 * d)) (hn : n ≤ u * g * (1 + 2 * d)) : n ≤ W * (1 + 32 * d) := by
  have hX0 : 0 ≤ s / g := by rw [Rat.div_def]; exact Rat.mul_nonneg hs (Rat.le_of_lt (Rat.inv_pos.2 hg))
  have hXg : s / g * g = s := Rat.div_mul_cancel (fun h => Rat.lt_irrefl (h ▸ hg))
  generalize s / g = X at *
  have hXX : 0 ≤ X * X := Rat.mul_nonneg hX0 hX0
  have b1 : r * r ≤ X * X * (1 + 9 * d) := by
    have a1 := sq_le hr0 hr
    have a2 := Rat.mul_le_mul_of_nonneg_left (mul_up hd0 hd1 (j := 4) (k := 4) (by decide) (by decide) (by decide) (by decide)) hXX
    grind
  have b2 : y ≤ X * X * (1 + 12 * d) := by
    have := up_mul hd0 hd1 (j := 9) (k := 2) (by decide) (by decide) (by decide) (by decide) hXX b1 hy
    grind
  have b3 : y + 1 ≤ (X * X + 1) * (1 + 12 * d) := by grind
  have hX1 : 0 ≤ X * X + 1 := by grind
  have b4 : t ≤ (X * X + 1) * (1 + 15 * d) := by
    have := up_mul hd0 hd1 (j := 12) (k := 2) (by decide) (by decide) (by decide) (by decide) hX1 b3 ht
    grind
  have b5 : u * u ≤ (X * X + 1) * (1 + 24 * d) := by
    have := up_mul hd0 hd1 (j := 15) (k := 8) (by decide) (by decide) (by decide) (by decide) hX1 b4 hu
    grind
  have hgg : 0 ≤ g * g := Rat.mul_nonneg (Rat.le_of_lt hg) (Rat.le_of_lt hg)
  have hWX : (X * X + 1) * (g * g) = W * W := by rw [← hW, ← hXg]; grind
  have b6 : u * u * (g * g) ≤ W * W * (1 + 24 * d) := by
    have a1 := Rat.mul_le_mul_of_nonneg_right b5 hgg
    have a2 : (X * X + 1) * (1 + 24 * d) * (g * g) = W * W * (1 + 24 * d) := by rw [← hWX]; grind
    grind
  have b7 : n * n ≤ u * u * (g * g) * (1 + 5 * d) := by
    have a1 := sq_le hn0 hn
    have a2 := Rat.mul_le_mul_of_nonneg_left (mul_up hd0 hd1 (j := 2) (k := 2) (by decide) (by decide) (by decide) (by decide)) (Rat.mul_nonneg (Rat.mul_nonneg hu0 hu0) hgg)
    grind
  have hWW : 0 ≤ W * W := Rat.mul_nonneg hW0 hW0
  have b8 : n * n ≤ W * W * (1 + 30 * d) := by
    have := up_mul hd0 hd1 (j := 24) (k := 5) (by decide) (by decide) (by decide) (by decide) hWW b6 b7
    grind
  refine rat_le_of_sq (Rat.mul_nonneg hW0 (by grind)) (Rat.le_trans b8 ?_)
  have a1 : 0 ≤ W * W * d := Rat.mul_nonneg hWW (Rat.le_of_lt hd0)
  have a2 : 0 ≤ W * W * d * d := Rat.mul_nonneg a1 (Rat.le_of_lt hd0)
  grind

theorem hyp_down {s g W r y t u n d : Rat} (hd0 : 0 < d) (hd1 : d ≤ 1 / 1024) (hg : 0 < g) (hs : 0 ≤ s) (hW0 : 0 ≤ W) (hW : s * s + g * g = W * W)
    (hu0 : 0 ≤ u) (hn0 : 0 ≤ n) (hr : s / g * (1 - 4 * d) ≤ r) (hy : r * r * (1 - 2 * d) ≤ y) (ht : (y + 1) * (1 - 2 * d) ≤ t) (hu : t * (1 - 8 * d) ≤ u * u) (hn : u * g * (1 - 2 * d) ≤ n) : W * (1 - 32 * d) ≤ n := by
  have hX0 : 0 ≤ s / g := by rw [Rat.div_def]; exact Rat.mul_nonneg hs (Rat.le_of_lt (Rat.inv_pos.2 hg))
  have hXg : s / g * g = s := Rat.div_mul_cancel (fun h => Rat.lt_irrefl (h ▸ hg))
  generalize s / g = X at *
  have hXX : 0 ≤ X * X := Rat.mul_nonneg hX0 hX0
  have b1 : X * X * (1 - 8 * d) ≤ r * r := by
    have a1 := sq_le (Rat.mul_nonneg hX0 (down_nonneg hd1 (by decide) (by decide))) hr
    have a2 := Rat.mul_le_mul_of_nonneg_left (mul_down hd0 (j := 4) (k := 4) (by decide) (by decide)) hXX
    grind
  have b2 : X * X * (1 - 10 * d) ≤ y := by
    have := down_mul hd0 hd1 (j := 8) (k := 2) (by decide) (by decide) (by decide) hXX b1 hy
    grind
  have b3 : (X * X + 1) * (1 - 10 * d) ≤ y + 1 := by grind
  have hX1 : 0 ≤ X * X + 1 := by grind
  have b4 : (X * X + 1) * (1 - 12 * d) ≤ t := by
    have := down_mul hd0 hd1 (j := 10) (k := 2) (by decide) (by decide) (by decide) hX1 b3 ht
    grind
  have b5 : (X * X + 1) * (1 - 20 * d) ≤ u * u := by
    have := down_mul hd0 hd1 (j := 12) (k := 8) (by decide) (by decide) (by decide) hX1 b4 hu
    grind
  have hgg : 0 ≤ g * g := Rat.mul_nonneg (Rat.le_of_lt hg) (Rat.le_of_lt hg)
  have hWX : (X * X + 1) * (g * g) = W * W := by rw [← hW, ← hXg]; grind
  have b6 : W * W * (1 - 20 * d) ≤ u * u * (g * g) := by
    have a1 := Rat.mul_le_mul_of_nonneg_right b5 hgg
    have a2 : (X * X + 1) * (1 - 20 * d) * (g * g) = W * W * (1 - 20 * d) := by rw [← hWX]; grind
    grind
  have b7 : u * u * (g * g) * (1 - 4 * d) ≤ n * n := by
    have a1 := sq_le (Rat.mul_nonneg (Rat.mul_nonneg hu0 (Rat.le_of_lt hg)) (down_nonneg hd1 (by decide) (by decide))) hn
    have a2 := Rat.mul_le_mul_of_nonneg_left (mul_down hd0 (j := 2) (k := 2) (by decide) (by decide)) (Rat.mul_nonneg (Rat.mul_nonneg hu0 hu0) hgg)
    grind
  have hWW : 0 ≤ W * W := Rat.mul_nonneg hW0 hW0
  have b8 : W * W * (1 - 24 * d) ≤ n * n := by
    have := down_mul hd0 hd1 (j := 20) (k := 4) (by decide) (by decide) (by decide) hWW b6 b7
    grind
  refine rat_le_of_sq hn0 (Rat.le_trans ?_ b8)
  have a1 : 0 ≤ W * W * d := Rat.mul_nonneg hWW (Rat.le_of_lt hd0)
  have a2 : W * W * d * d ≤ W * W * d * (1 / 1024) := Rat.mul_le_mul_of_nonneg_left hd1 a1
  grind

/-- What the assembly of math.Hypot makes of two magnitudes that are not both 0, the greater one first. -/
def hypOf (big small : Nat) : Option Nat := do
  let r ← double.div small big
  let rr ← double.mul r r
  let t ← double.add rr 0x3FF0000000000000
  let u ← double.sqrt t
  double.mul u big

theorem lt_1023 {x : Rat} {e : Int} (h : x ≤ pw e) (he : e < 1023) : x < pw 1023 := by
  have := pw_lt he; grind

theorem neg_lt {x : Rat} (h : 0 ≤ x) : -(pw 1023) < x := by have := pw_pos 1023; grind

theorem pw_one : pw 1 = 2 := by rw [show (1 : Int) = 0 + 1 from rfl, pw_succ, pw_zero]; grind
theorem pw_two : pw 2 = 4 := by rw [show (2 : Int) = 1 + 1 from rfl, pw_succ, pw_one]; grind

theorem rounds_rel' {X v : Rat} (h : Rounds X v) (hX : X = 0 ∨ pw (-1022) ≤ X) : v ≤ X * (1 + 2 * pw (-54)) ∧ X * (1 - 2 * pw (-54)) ≤ v := by
  rcases hX with rfl | hX
  · have := rounds_exact h 0 0 (by decide) (by decide) (by simp)
    subst this
    simp
  · rw [← pw_m53]; exact rounds_rel h hX

theorem rounds_nonneg {X v : Rat} (h : Rounds X v) (hX : 0 ≤ X) : 0 ≤ v := by
  have := le_rounds h 0 0 (by decide) (by decide) (by simpa using hX)
  simpa using this

theorem half_lo {X d q v : Rat} (hq : 0 < q) (hX : 2 * q ≤ X) (hd1 : d ≤ 1 / 1024) (hv : X * (1 - 4 * d) ≤ v) : q ≤ v := by
  have a1 : X * d ≤ X * (1 / 1024) := Rat.mul_le_mul_of_nonneg_left hd1 (by grind)
  grind

/-- The hypotenuse of two magnitudes, the greater one first, is near the third side. -/
theorem hypOf_is {big small : Nat} {g s W : Rat} (hb : Is big g) (hs : Is small s) (hg1 : 1 ≤ g) (hg : g ≤ pw 40) (hs0 : s = 0 ∨ 1 ≤ s) (hsg : s ≤ g) (hW0 : 0 ≤ W) (hW : s * s + g * g = W * W) :
    ∃ r n, hypOf big small = some r ∧ Is r n ∧ n ≤ W * (1 + 32 * pw (-54)) ∧ W * (1 - 32 * pw (-54)) ≤ n ∧ 0 ≤ n := by
  have hs00 : 0 ≤ s := by grind
  have hg0 : 0 < g := by grind
  have hd := pw_m54_small
  obtain ⟨r, vr, er, ir, nr, vr0⟩ := div_is hs hb hs00 hg0 (by
    rcases hs0 with h | h
    · exact .inl h
    · right
      have a1 : pw (-1021) * g ≤ pw (-1021) * pw 40 := Rat.mul_le_mul_of_nonneg_left hg (pw_nonneg _)
      rw [← pw_add] at a1
      have a2 : pw (-1021 + 40) ≤ pw 0 := pw_le (by omega)
      rw [pw_zero] at a2
      grind) (by
    have a1 : (1 : Rat) ≤ pw 1000 := by have := pw_le (show (0 : Int) ≤ 1000 by omega); rwa [pw_zero] at this
    have a2 := Rat.mul_le_mul_of_nonneg_right a1 (Rat.le_of_lt hg0)
    grind)
  have hX0 : 0 ≤ s / g := by rw [Rat.div_def]; exact Rat.mul_nonneg hs00 (Rat.le_of_lt (Rat.inv_pos.2 hg0))
  have hXg : s / g * g = s := Rat.div_mul_cancel (fun h => Rat.lt_irrefl (h ▸ hg0))
  have hX1 : s / g ≤ 1 := Rat.le_of_mul_le_mul_right (c := g) (by grind) hg0
  have hXlo : s = 0 ∨ pw (-40) ≤ s / g := by
    rcases hs0 with h | h
    · exact .inl h
    · right
      refine Rat.le_of_mul_le_mul_right (c := g) ?_ hg0
      have a1 : pw (-40) * g ≤ pw (-40) * pw 40 := Rat.mul_le_mul_of_nonneg_left hg (pw_nonneg _)
      rw [← pw_add, show (-40 : Int) + 40 = 0 from rfl, pw_zero] at a1
      grind
  have hr1 : vr ≤ s / g * (1 + 4 * pw (-54)) := by
    have := nr.1
    rwa [show pw (-52) = 4 * pw (-54) by rw [show (-52 : Int) = -54 + 1 + 1 from rfl, pw_succ, pw_succ]; grind] at this
  have hr2 : s / g * (1 - 4 * pw (-54)) ≤ vr := by
    have := nr.2
    rwa [show pw (-52) = 4 * pw (-54) by rw [show (-52 : Int) = -54 + 1 + 1 from rfl, pw_succ, pw_succ]; grind] at this
  have hvr : vr ≤ 5 / 4 := by
    have a1 := Rat.mul_le_mul_of_nonneg_right hX1 (show 0 ≤ 1 + 4 * pw (-54) by grind)
    grind
  have hvr2 : vr * vr ≤ 25 / 16 := by
    have := sq_le vr0 hvr
    grind
  have hvr0 : 0 ≤ vr * vr := Rat.mul_nonneg vr0 vr0
  have h2p := pw_one
  have h4p := pw_two
  obtain ⟨rr, vy, err, irr, nrr⟩ := mul_is ir ir (lt_1023 (e := 1) (by grind) (by omega)) (neg_lt hvr0)
  have hy := rounds_rel' nrr (by
    rcases hXlo with h | h
    · left
      have : vr = 0 := by
        rw [h] at hr1
        have e0 : (0 : Rat) / g = 0 := by rw [Rat.div_def]; simp
        rw [e0] at hr1
        grind
      rw [this]; simp
    · right
      have a1 : pw (-41) ≤ vr := by
        have a3 : pw (-40) = 2 * pw (-41) := by rw [show (-40 : Int) = -41 + 1 from rfl, pw_succ]
        rw [a3] at h
        exact half_lo (pw_pos (-41)) h hd.2 hr2
      have a2 := sq_le (pw_nonneg _) a1
      rw [← pw_add] at a2
      exact Rat.le_trans (pw_le (by omega)) a2)
  have vy0 := rounds_nonneg nrr hvr0
  have hvy : vy ≤ 2 := by
    have a1 := Rat.mul_le_mul_of_nonneg_left hd.2 hvr0
    grind
  obtain ⟨t, vt, et, it, nt⟩ := add_is irr one_is (lt_1023 (e := 2) (by grind) (by omega)) (neg_lt (by grind))
  have hone : pw (-1022) ≤ 1 := by have := pw_le (show (-1022 : Int) ≤ 0 by omega); rwa [pw_zero] at this
  have ht := rounds_rel' nt (.inr (by grind))
  have ht1 : 1 ≤ vt := by
    have := le_rounds nt 1 0 (by decide) (by decide) (by rw [pw_zero]; simp; grind)
    rw [pw_zero] at this; simpa using this
  have ht4 : vt ≤ 4 := by
    have := rounds_le nt 4 0 (by decide) (by decide) (by rw [pw_zero]; simp; grind)
    rw [pw_zero] at this; simpa using this
  obtain ⟨u, vu, eu, iu, vu0, hu1, hu2⟩ := sqrt_is it ht1 ht4
  rw [pw_m51] at hu1 hu2
  have hvu4 : vu ≤ 4 := by
    refine rat_le_of_sq (by decide) ?_
    have a1 := Rat.mul_le_mul_of_nonneg_left hd.2 (show 0 ≤ vt by grind)
    grind
  have hvu : 1 / 2 ≤ vu := by
    refine rat_le_of_sq vu0 ?_
    have a1 := Rat.mul_le_mul_of_nonneg_left hd.2 (show 0 ≤ vt by grind)
    grind
  have hug0 : 0 ≤ vu * g := Rat.mul_nonneg vu0 (Rat.le_of_lt hg0)
  obtain ⟨n, vn, en, inn, nn⟩ := mul_is iu hb (by
    have a1 : vu * g ≤ pw 2 * pw 40 := by
      rw [h4p]
      exact Rat.le_trans (Rat.mul_le_mul_of_nonneg_right hvu4 (Rat.le_of_lt hg0)) (Rat.mul_le_mul_of_nonneg_left hg (by decide))
    rw [← pw_add] at a1
    exact lt_1023 a1 (by omega)) (neg_lt hug0)
  have hn := rounds_rel' nn (.inr (by
    have a1 : pw (-1022) ≤ pw (-1) := pw_le (by omega)
    rw [pw_m1] at a1
    have a2 : 1 / 2 * 1 ≤ vu * g := Rat.le_trans (Rat.mul_le_mul_of_nonneg_right hvu (by decide)) (Rat.mul_le_mul_of_nonneg_left hg1 vu0)
    grind))
  have vn0 := rounds_nonneg nn hug0
  refine ⟨n, vn, ?_, inn, ?_, ?_, vn0⟩
  · unfold hypOf
    rw [er]
    simp only [Option.bind_eq_bind, Option.bind_some, err, et, eu, en]
  · exact hyp_up hd.1 hd.2 hg0 hs00 hW0 hW vr0 vu0 vn0 hr1 hy.1 ht.1 hu1 hn.1
  · exact hyp_down hd.1 hd.2 hg0 hs00 hW0 hW vu0 vn0 hr2 hy.2 ht.2 hu2 hn.2

theorem abs_lt_of {n : Int} (h : n.natAbs ≤ 2 ^ 53) : (n : Rat) < pw 1023 ∧ -(pw 1023) < (n : Rat) := by
  have h1 : (n : Rat) ≤ (((2 ^ 53 : Nat) : Int) : Rat) := Rat.intCast_le_intCast.2 (by omega)
  have h2 : ((-((2 ^ 53 : Nat) : Int) : Int) : Rat) ≤ (n : Rat) := Rat.intCast_le_intCast.2 (by omega)
  rw [Rat.intCast_neg] at h2
  rw [Rat.intCast_natCast, ← pw_nat] at h1 h2
  have h3 := pw_lt (show ((53 : Nat) : Int) < 1023 by omega)
  constructor <;> grind

theorem int_exact {n : Int} {v : Rat} (h : n.natAbs ≤ 2 ^ 53) (hr : Rounds (n : Rat) v) : v = (n : Rat) :=
  rounds_exact hr n 0 h (by omega) (by rw [pw_zero, Rat.mul_one])

theorem int_mul {x y : Nat} {m n : Int} (hx : Is x (m : Rat)) (hy : Is y (n : Rat)) (h : (m * n).natAbs ≤ 2 ^ 53) : ∃ r, double.mul x y = some r ∧ Is r ((m * n : Int) : Rat) := by
  have hb := abs_lt_of h
  rw [Rat.intCast_mul] at hb
  obtain ⟨r, v, e, i, hr⟩ := mul_is hx hy hb.1 hb.2
  rw [← Rat.intCast_mul] at hr
  rw [int_exact h hr] at i
  exact ⟨r, e, i⟩

theorem int_add {x y : Nat} {m n : Int} (hx : Is x (m : Rat)) (hy : Is y (n : Rat)) (h : (m + n).natAbs ≤ 2 ^ 53) : ∃ r, double.add x y = some r ∧ Is r ((m + n : Int) : Rat) := by
  have hb := abs_lt_of h
  rw [Rat.intCast_add] at hb
  obtain ⟨r, v, e, i, hr⟩ := add_is hx hy hb.1 hb.2
  rw [← Rat.intCast_add] at hr
  rw [int_exact h hr] at i
  exact ⟨r, e, i⟩

theorem int_sub {x y : Nat} {m n : Int} (hx : Is x (m : Rat)) (hy : Is y (n : Rat)) (h : (m - n).natAbs ≤ 2 ^ 53) : ∃ r, double.sub x y = some r ∧ Is r ((m - n : Int) : Rat) := by
  have hb := abs_lt_of h
  rw [Rat.intCast_sub] at hb
  obtain ⟨r, v, e, i, hr⟩ := sub_is hx hy hb.1 hb.2
  rw [← Rat.intCast_sub] at hr
  rw [int_exact h hr] at i
  exact ⟨r, e, i⟩

/-- The double of a whole number. -/
def ofI (n : Int) : Nat := double.write (.number (n < 0) n.natAbs 0)
theorem ofI_is (n : Int) (h : n.natAbs ≤ 2 ^ 53) : Is (ofI n) (n : Rat) := int_is n h

theorem order_of_le {x y : Nat} {a b : Rat} (hx : Is x a) (hy : Is y b) (h : a ≤ b) : double.order x y = some .lt ∨ double.order x y = some .eq := by
  rw [order_fv hx.num hy.num, hx.fv, hy.fv]
  by_cases c : a < b
  · left; simp [c]
  · right
    have : a = b := by grind
    simp [this]

/-- One part in 10 to the power of 12, as Go writes it. -/
theorem tiny_is : ∃ v, Is 0x3D719799812DEA11 v ∧ pw (-40) ≤ v ∧ v ≤ 1 := by
  refine ⟨_, ⟨false, 2 ^ 52 + 0x19799812DEA11, -92, by decide +kernel, rfl, by decide, by decide, by decide⟩, ?_, ?_⟩
  · unfold val
    simp only [Bool.false_eq_true, ↓reduceIte]
    rw [show (-40 : Int) = ((52 : Nat) : Int) + -92 from rfl, pw_add]
    exact Rat.mul_le_mul_of_nonneg_right (pw_le_cast (by decide)) (pw_nonneg _)
  · unfold val
    simp only [Bool.false_eq_true, ↓reduceIte]
    have a1 : ((2 ^ 52 + 0x19799812DEA11 : Nat) : Rat) * pw (-92) ≤ pw ((53 : Nat) : Int) * pw (-92) := Rat.mul_le_mul_of_nonneg_right (cast_le_pw (by decide)) (pw_nonneg _)
    rw [← pw_add] at a1
    have a2 : pw (((53 : Nat) : Int) + -92) ≤ pw 0 := pw_le (by omega)
    rw [pw_zero] at a2
    exact Rat.le_trans a1 a2

/-- The comparison at the law's end: a number near W differs from it by at most one part in 10 to the power of 12. -/
theorem near_end {n w : Nat} {vn : Rat} {W : Nat} (hn : Is n vn) (hw : Is w ((W : Int) : Rat)) (hW : W ≤ 2 ^ 40) (h1 : vn ≤ (W : Rat) * (1 + 32 * pw (-54))) (h2 : (W : Rat) * (1 - 32 * pw (-54)) ≤ vn) :
    ∃ d R, double.sub n w = some d ∧ double.mul w 0x3D719799812DEA11 = some R ∧ isNum d ∧ (double.order (d % 2 ^ 63) R = some .lt ∨ double.order (d % 2 ^ 63) R = some .eq) := by
  rw [Rat.intCast_natCast] at hw
  have hW0 : (0 : Rat) ≤ W := Rat.natCast_nonneg
  have hW1 : (W : Rat) ≤ pw 40 := cast_le_pw hW
  have h49 : pw (-49) = 32 * pw (-54) := by rw [show (-49 : Int) = -54 + 1 + 1 + 1 + 1 + 1 from rfl, pw_succ, pw_succ, pw_succ, pw_succ, pw_succ]; grind
  have hd := pw_m54_small
  have hWd : (W : Rat) * pw (-54) ≤ (W : Rat) * (1 / 1024) := Rat.mul_le_mul_of_nonneg_left hd.2 hW0
  have hWd0 : 0 ≤ (W : Rat) * pw (-54) := Rat.mul_nonneg hW0 (Rat.le_of_lt hd.1)
  have h40 := pw_lt (show (40 : Int) < 1023 by omega)
  have hX1 : vn - W ≤ (W : Rat) * pw (-49) := by rw [h49]; grind
  have hX2 : -((W : Rat) * pw (-49)) ≤ vn - W := by rw [h49]; grind
  have hs1 : vn - (W : Rat) < pw 1023 := by rw [h49] at hX1; grind
  have hs2 : -(pw 1023) < vn - (W : Rat) := by rw [h49] at hX2; grind
  obtain ⟨d, vd, ed, id, rd⟩ := sub_is hn hw hs1 hs2
  obtain ⟨c, ic, c1, c2⟩ := tiny_is
  have hc0 : 0 ≤ c := Rat.le_trans (pw_nonneg _) c1
  have hWc0 : 0 ≤ (W : Rat) * c := Rat.mul_nonneg hW0 hc0
  have hWc1 : (W : Rat) * c ≤ pw 40 := by
    have := Rat.mul_le_mul_of_nonneg_left c2 hW0
    grind
  obtain ⟨R, vR, eR, iR, rR⟩ := mul_is hw ic (lt_1023 hWc1 (by omega)) (neg_lt hWc0)
  refine ⟨d, R, ed, eR, id.num, ?_⟩
  have hk : ((W : Int)).natAbs ≤ 2 ^ 53 := by omega
  have b1 := rounds_le rd W (-49) hk (by omega) (by rw [Rat.intCast_natCast]; exact hX1)
  have b2 := le_rounds rd (-(W : Int)) (-49) (by omega) (by omega) (by rw [Rat.intCast_neg, Rat.intCast_natCast, Rat.neg_mul]; exact hX2)
  have b3 := le_rounds rR W (-49) hk (by omega) (by
    rw [Rat.intCast_natCast]
    exact Rat.mul_le_mul_of_nonneg_left (Rat.le_trans (pw_le (by omega)) c1) hW0)
  rw [Rat.intCast_natCast] at b1 b3
  rw [Rat.intCast_neg, Rat.intCast_natCast, Rat.neg_mul] at b2
  refine order_of_le (abs_is id) iR ?_
  split <;> grind

def hyp (P Q : Nat) : Option Nat :=
  if P % 2 ^ 63 = 0 ∧ Q % 2 ^ 63 = 0 then some 0
  else if double.order (P % 2 ^ 63) (Q % 2 ^ 63) == some .lt then hypOf (Q % 2 ^ 63) (P % 2 ^ 63) else hypOf (P % 2 ^ 63) (Q % 2 ^ 63)

theorem zero_is : Is 0 0 := ⟨false, 0, -1074, by decide +kernel, by unfold val; simp, by decide, by decide, by decide⟩

theorem int_abs {x : Nat} {n : Int} (h : Is x (n : Rat)) : Is (x % 2 ^ 63) ((n.natAbs : Nat) : Rat) := by
  have := abs_is h
  rw [signed_abs]
  by_cases c : n < 0
  · rw [if_pos c]; rwa [if_pos (by rw [← Rat.intCast_zero, Rat.intCast_lt_intCast]; exact c)] at this
  · rw [if_neg c]; rwa [if_neg (by rw [← Rat.intCast_zero, Rat.intCast_lt_intCast]; exact c)] at this

theorem nat_zero_or_one (n : Nat) : (n : Rat) = 0 ∨ (1 : Rat) ≤ n := by
  rcases Nat.eq_zero_or_pos n with c | c
  · left; subst c; rfl
  · right; have := Rat.natCast_le_natCast.2 c; exact this

theorem squares (x y W : Nat) (h : x * x + y * y = W * W) : (x : Rat) * x + (y : Rat) * y = (W : Rat) * W := by
  rw [← Rat.natCast_mul, ← Rat.natCast_mul, ← Rat.natCast_mul, ← Rat.natCast_add, h]

theorem hyp_is {P Q : Nat} {a b : Int} {W : Nat} (hP : Is P (a : Rat)) (hQ : Is Q (b : Rat)) (ha : a.natAbs ≤ 2 ^ 40) (hb : b.natAbs ≤ 2 ^ 40) (hW : a.natAbs * a.natAbs + b.natAbs * b.natAbs = W * W) :
    ∃ n vn, hyp P Q = some n ∧ Is n vn ∧ vn ≤ (W : Rat) * (1 + 32 * pw (-54)) ∧ (W : Rat) * (1 - 32 * pw (-54)) ≤ vn := by
  have ip := int_abs hP
  have iq := int_abs hQ
  have lp : P % 2 ^ 63 < 2 ^ 63 := Nat.mod_lt _ (by decide)
  have lq : Q % 2 ^ 63 < 2 ^ 63 := Nat.mod_lt _ (by decide)
  unfold hyp
  generalize P % 2 ^ 63 = p at *
  generalize Q % 2 ^ 63 = q at *
  generalize a.natAbs = x at *
  generalize b.natAbs = y at *
  have hW0 : (0 : Rat) ≤ W := Rat.natCast_nonneg
  by_cases c0 : p = 0 ∧ q = 0
  · rw [if_pos c0]
    obtain ⟨rfl, rfl⟩ := c0
    have hx : (x : Rat) = 0 := by rw [← ip.fv, ← zero_is.fv]
    have hy : (y : Rat) = 0 := by rw [← iq.fv, ← zero_is.fv]
    have hx' := Rat.natCast_eq_zero_iff.1 hx
    have hy' := Rat.natCast_eq_zero_iff.1 hy
    subst hx' hy'
    have hW' : W = 0 := by
      rcases Nat.mul_eq_zero.1 hW.symm with h | h <;> exact h
    subst hW'
    exact ⟨0, 0, rfl, zero_is, by simp, by simp⟩
  · rw [if_neg c0]
    rw [order_fv ip.num iq.num, ip.fv, iq.fv]
    by_cases c : (x : Rat) < y
    · have e : (some (if (x : Rat) < y then Ordering.lt else if (x : Rat) = y then Ordering.eq else Ordering.gt) == some Ordering.lt) = true := by simp [c]
      rw [if_pos e]
      have hc := Rat.natCast_lt_natCast.1 c
      have h1 : (1 : Rat) ≤ (y : Rat) := by
        rcases nat_zero_or_one y with h | h
        · have := Rat.natCast_eq_zero_iff.1 h; omega
        · exact h
      obtain ⟨r, n, e1, e2, e3, e4, _⟩ := hypOf_is iq ip h1 (cast_le_pw hb) (nat_zero_or_one x) (Rat.le_of_lt c) hW0 (squares x y W hW)
      exact ⟨r, n, e1, e2, e3, e4⟩
    · have e : ¬ ((some (if (x : Rat) < y then Ordering.lt else if (x : Rat) = y then Ordering.eq else Ordering.gt) == some Ordering.lt) = true) := by
        by_cases c' : (x : Rat) = y <;> simp [c, c']
      rw [if_neg e]
      have hle : (y : Rat) ≤ x := Rat.not_lt.1 c
      have h1 : (1 : Rat) ≤ (x : Rat) := by
        rcases nat_zero_or_one x with h | h
        · exfalso
          rw [h] at hle ip
          have hy0 : (y : Rat) = 0 := by rcases nat_zero_or_one y with h' | h' <;> grind
          rw [hy0] at iq
          exact c0 ⟨is_zero ip lp, is_zero iq lq⟩
        · exact h
      obtain ⟨r, n, e1, e2, e3, e4, _⟩ := hypOf_is ip iq h1 (cast_le_pw ha) (nat_zero_or_one y) hle hW0 (squares y x W (by rw [Nat.add_comm]; exact hW))
      exact ⟨r, n, e1, e2, e3, e4⟩

theorem triple_nat (u v : Nat) : ((u : Int) * u - v * v).natAbs * ((u : Int) * u - v * v).natAbs + (2 * (u : Int) * v).natAbs * (2 * (u : Int) * v).natAbs = (u * u + v * v) * (u * u + v * v) := by
  have h1 : ∀ a : Int, ((a.natAbs * a.natAbs : Nat) : Int) = a * a := fun a => by rw [Int.natCast_mul, Int.natAbs_mul_self']
  have : (((((u : Int) * u - v * v).natAbs * ((u : Int) * u - v * v).natAbs + (2 * (u : Int) * v).natAbs * (2 * (u : Int) * v).natAbs : Nat)) : Int) = (((u * u + v * v) * (u * u + v * v) : Nat) : Int) := by
    rw [Int.natCast_add, h1, h1]
    simp only [Int.natCast_mul, Int.natCast_add]
    grind
  exact Int.ofNat_inj.1 this

/-- All that the law's doubles are, one behind the other. -/
theorem triples (u v : Nat) (hu : u ≤ 65535) (hv : v ≤ 65535) :
    ∃ aa bb w P a2 Q n d R, double.mul (ofI u) (ofI u) = some aa ∧ double.mul (ofI v) (ofI v) = some bb ∧ double.add aa bb = some w ∧ double.sub aa bb = some P ∧ double.mul (ofI 2) (ofI u) = some a2 ∧ double.mul a2 (ofI v) = some Q ∧
      isNum P ∧ isNum Q ∧ hyp P Q = some n ∧ isNum n ∧ double.sub n w = some d ∧ double.mul w 0x3D719799812DEA11 = some R ∧ isNum d ∧ (double.order (d % 2 ^ 63) R = some .lt ∨ double.order (d % 2 ^ 63) R = some .eq) := by
  have ia := ofI_is u (by omega)
  have ib := ofI_is v (by omega)
  have i2 := ofI_is 2 (by omega)
  have buu : u * u ≤ 65535 * 65535 := Nat.mul_le_mul hu hu
  have bvv : v * v ≤ 65535 * 65535 := Nat.mul_le_mul hv hv
  have buv : u * v ≤ 65535 * 65535 := Nat.mul_le_mul hu hv
  have cuu : ((u : Int) * u) = ((u * u : Nat) : Int) := (Int.natCast_mul u u).symm
  have cvv : ((v : Int) * v) = ((v * v : Nat) : Int) := (Int.natCast_mul v v).symm
  have cuv : (2 * (u : Int) * v) = 2 * ((u * v : Nat) : Int) := by rw [Int.natCast_mul, Int.mul_assoc]
  obtain ⟨aa, e1, iaa⟩ := int_mul ia ia (by rw [cuu]; omega)
  obtain ⟨bb, e2, ibb⟩ := int_mul ib ib (by rw [cvv]; omega)
  obtain ⟨w, e3, iw⟩ := int_add iaa ibb (by rw [cuu, cvv]; omega)
  obtain ⟨P, e4, iP⟩ := int_sub iaa ibb (by rw [cuu, cvv]; omega)
  obtain ⟨a2, e5, ia2⟩ := int_mul i2 ia (by omega)
  obtain ⟨Q, e6, iQ⟩ := int_mul ia2 ib (by rw [cuv]; omega)
  obtain ⟨n, vn, e7, inn, n1, n2⟩ := hyp_is iP iQ (by rw [cuu, cvv]; omega) (by rw [cuv]; omega) (triple_nat u v)
  have ew : ((u : Int) * u + v * v) = ((u * u + v * v : Nat) : Int) := by rw [cuu, cvv]; rfl
  rw [ew] at iw
  obtain ⟨d, R, e8, e9, id, ho⟩ := near_end (W := u * u + v * v) inn iw (by omega) n1 n2
  exact ⟨aa, bb, w, P, a2, Q, n, d, R, e1, e2, e3, e4, e5, e6, iP.num, iQ.num, e7, inn.num, e8, e9, id, ho⟩

/-- Is the word a number (no infinity, no NaN)? -/
def numB (x : Nat) : Bool := match double.read x with | .number .. => true | _ => false

theorem numB_iff (x : Nat) : numB x = true ↔ isNum x := by
  unfold numB isNum
  cases h : double.read x <;> simp

theorem read_bounds {x : Nat} {s : Bool} {m : Nat} {e : Int} (h : double.read x = .number s m e) : m < 2 ^ 53 ∧ -1074 ≤ e ∧ e ≤ 971 := by
  unfold Format.read at h
  have hb : double.binade = 2 ^ 52 := by decide
  have hl : double.leastPlace = -1074 := by decide
  simp only [infRung_val, signWeight_val, hb, hl] at h
  split at h
  · simp only [Datum.number.injEq] at h
    omega
  · split at h
    · simp only [Datum.number.injEq] at h
      omega
    · split at h <;> cases h

theorem num_is {x : Nat} (h : isNum x) : Is x (fv x) := by
  obtain ⟨s, m, e, h⟩ := h
  have hb := read_bounds h
  refine ⟨s, m, e, h, ?_, hb⟩
  unfold fv; rw [h]

theorem read_abs (x : Nat) : double.read (x % 2 ^ 63) = match double.read x with | .number _ m e => .number false m e | .infinity _ => .infinity false | .nan _ t => .nan false t := by
  unfold Format.read
  simp only [signWeight_val, Nat.mod_mod]
  have e0 : (x % 2 ^ 63 / 2 ^ 63 % 2 == 1) = false := by rw [Nat.div_eq_of_lt (Nat.mod_lt _ (by decide))]; rfl
  rw [e0]
  by_cases c1 : x % 2 ^ 63 < double.binade
  · simp only [if_pos c1]
  · simp only [if_neg c1]
    by_cases c2 : x % 2 ^ 63 < double.infRung
    · simp only [if_pos c2]
    · simp only [if_neg c2]
      by_cases c3 : x % 2 ^ 63 = double.infRung
      · simp only [if_pos c3]
      · simp only [if_neg c3]

theorem nan_num {x : Nat} (h : isNum x) : (double.order x x != some .eq) = false := by
  rw [order_fv h h]; simp [Rat.lt_irrefl]

theorem max_is : double.read 9218868437227405311 = .number false (2 ^ 53 - 1) 971 := by decide +kernel

theorem inf_num {x : Nat} (h : isNum x) : (double.order (x % 2 ^ 63) 9218868437227405311 == some .gt) = false := by
  have hm : isNum 9218868437227405311 := ⟨_, _, _, max_is⟩
  have ha := abs_is (num_is h)
  rw [order_fv ha.num hm]
  have hle : fv (x % 2 ^ 63) ≤ fv 9218868437227405311 := by
    obtain ⟨s, m, e, h⟩ := h
    have hb := read_bounds h
    unfold fv
    rw [read_abs, h, max_is]
    unfold val
    simp only [Bool.false_eq_true, ↓reduceIte]
    exact Rat.le_trans (Rat.mul_le_mul_of_nonneg_right (Rat.natCast_le_natCast.2 (by omega)) (pw_nonneg e)) (Rat.mul_le_mul_of_nonneg_left (pw_le hb.2.2) Rat.natCast_nonneg)
  by_cases c : fv (x % 2 ^ 63) < fv 9218868437227405311
  · simp [c]
  · have : fv (x % 2 ^ 63) = fv 9218868437227405311 := Rat.le_antisymm hle (Rat.not_lt.1 c)
    simp [this, Rat.lt_irrefl]

/-- What is no number is a NaN, or an infinity. -/
theorem not_num {x : Nat} (h : numB x = false) : (double.order x x != some .eq) = true ∨ (double.order x x != some .eq) = false ∧ (double.order (x % 2 ^ 63) 9218868437227405311 == some .gt) = true := by
  unfold numB at h
  unfold Format.order
  rw [read_abs, max_is]
  cases hr : double.read x with
  | number s m e => rw [hr] at h; cases h
  | infinity s => right; cases s <;> decide
  | nan s t => left; simp [Datum.order]

/-- A word beyond infinity's is no number. -/
theorem numB_nan {x : Nat} (h : 2047 * 2 ^ 52 < x % 2 ^ 63) : numB x = false := by
  unfold numB Format.read
  have hb : double.binade = 2 ^ 52 := by decide
  simp only [infRung_val, signWeight_val, hb]
  generalize x % 2 ^ 63 = r at *
  generalize (x / 2 ^ 63 % 2 == 1) = s
  rw [if_neg (by omega), if_neg (by omega), if_neg (by omega)]

theorem nan_word (a c : Nat) (hc : c < 2 ^ 52 - 1) : numB (a * 2 ^ 63 + 0x7ff0000000000000 + 1 + c) = false :=
  numB_nan (by omega)

theorem nan_lt (a c : Nat) (ha : a < 2) (hc : c < 2 ^ 52 - 1) : a * 2 ^ 63 + 0x7ff0000000000000 + 1 + c < 2 ^ 64 := by omega

end Fl
