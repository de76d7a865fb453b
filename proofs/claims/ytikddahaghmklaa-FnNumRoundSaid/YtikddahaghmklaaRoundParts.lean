/-
  The rounding that FnNumRound reaches: what math.Round makes of a word.
  No condition beyond the argument being a word of a double.
-/
import Derived.Test.YtikddahaghmklaaNumDoor
import Derived.Test.YtikddahaghmklaaFlRound
import Derived.Laws.Bits64b
import Derived.Laws.ShiftsVarLaws
import Derived.StillTailTactics
import Derived.Deep.QuietTactic
import Derived.BigQuiet
import Derived.RegionTactic
import Derived.ChangeAlike
import Derived.Deep.RegionWith
import Derived.BigRegion
import Derived.Deep.RegionHeld3
namespace Go.Proofs.Ytikddahaghmklaa.fnNumRound
open Go.RowKit Go.Proofs.Ytikddahaghmklaa.Num

theorem field_eq (x : Nat) (hx : x < 2 ^ 64) : bits BinOp.and IntKind.u64 ((x : Int) / 4503599627370496) 2047 = ((x % 2 ^ 63 / 2 ^ 52 : Nat) : Int) := by
  have e : ((x : Int) / 4503599627370496) = ((x / 4503599627370496 : Nat) : Int) := rfl
  rw [e, show (2047 : Int) = ((2047 : Nat) : Int) from rfl, bits_and_u64_nat _ _ (by omega) (by decide), Fl.field]

theorem sign_eq (x : Nat) (hx : x < 2 ^ 64) : bits BinOp.and IntKind.u64 (x : Int) 9223372036854775808 = ((x / 2 ^ 63 * 2 ^ 63 : Nat) : Int) := by
  rw [show (9223372036854775808 : Int) = ((9223372036854775808 : Nat) : Int) from rfl, bits_and_u64_nat _ _ (by simpa using hx) (by decide), Fl.and_sign x hx]

theorem one_eq (x : Nat) (hx : x < 2 ^ 64) : (bits BinOp.or IntKind.u64 (bits BinOp.and IntKind.u64 (x : Int) 9223372036854775808) 4607182418800017408).toNat = x / 2 ^ 63 * 2 ^ 63 + 1023 * 2 ^ 52 := by
  rw [sign_eq x hx, show (4607182418800017408 : Int) = ((4607182418800017408 : Nat) : Int) from rfl, bits_or_u64_nat _ _ (by omega) (by decide), Int.toNat_natCast]
  exact Fl.or_one _ (by omega)

theorem pow_div (n k : Nat) (h : k ≤ n) : 2 ^ n / 2 ^ k = 2 ^ (n - k) := Nat.pow_div h (by omega)

theorem mask_div (k : Nat) (h : k ≤ 52) : (2 ^ 52 - 1) / 2 ^ k = 2 ^ (52 - k) - 1 := by
  have e : 2 ^ 52 = 2 ^ (52 - k) * 2 ^ k := by rw [← Nat.pow_add]; congr 1; omega
  have hp := Nat.two_pow_pos k
  have hq := Nat.two_pow_pos (52 - k)
  have e2 : 2 ^ 52 - 1 = (2 ^ (52 - k) - 1) * 2 ^ k + (2 ^ k - 1) := by
    rw [Nat.sub_mul, ← e]
    have : 2 ^ k ≤ 2 ^ 52 := Nat.pow_le_pow_right (by omega) h
    omega
  rw [e2, Nat.add_comm, Nat.add_mul_div_right _ _ hp, Nat.div_eq_of_lt (by omega), Nat.zero_add]

theorem mid_eq (x E : Nat) (hx : x < 2 ^ 64) (hE : x % 2 ^ 63 / 2 ^ 52 = E) (h1 : 1023 ≤ E) (h2 : E < 1075) :
    (bits BinOp.andNot IntKind.u64 (IntKind.u64.wrap ((x : Int) + 2251799813685248 / 2 ^ (E - 1023))) (4503599627370495 / 2 ^ (E - 1023))).toNat = Fl.rndW x := by
  have a1 : (2251799813685248 : Int) / 2 ^ (E - 1023) = ((2 ^ (1074 - E) : Nat) : Int) := by
    have : (2251799813685248 : Int) / 2 ^ (E - 1023) = ((2 ^ 51 / 2 ^ (E - 1023) : Nat) : Int) := by
      rw [Int.natCast_ediv]; simp
    rw [this, pow_div 51 _ (by omega), show 51 - (E - 1023) = 1074 - E by omega]
  have a2 : (4503599627370495 : Int) / 2 ^ (E - 1023) = ((2 ^ (1075 - E) - 1 : Nat) : Int) := by
    have : (4503599627370495 : Int) / 2 ^ (E - 1023) = (((2 ^ 52 - 1) / 2 ^ (E - 1023) : Nat) : Int) := by
      rw [Int.natCast_ediv]; simp
    rw [this, mask_div _ (by omega), show 52 - (E - 1023) = 1075 - E by omega]
  have b1 : 2 ^ (1074 - E) ≤ 2 ^ 51 := Nat.pow_le_pow_right (by omega) (by omega)
  have b2 : 2 ^ (1075 - E) ≤ 2 ^ 52 := Nat.pow_le_pow_right (by omega) (by omega)
  have b3 := Nat.two_pow_pos (1075 - E)
  have hlt : x + 2 ^ (1074 - E) < 2 ^ 64 := by omega
  rw [a1, a2, ← Int.natCast_add, IntKind.wrap_u64]
  have hw : (((x + 2 ^ (1074 - E) : Nat) : Int) % 18446744073709551616) = ((x + 2 ^ (1074 - E) : Nat) : Int) := by
    generalize x + 2 ^ (1074 - E) = y at *
    omega
  rw [hw]
  rw [u64_andNot_nat _ _ (by omega) (by omega), Int.toNat_natCast]
  have hm := Fl.and_high (x + 2 ^ (1074 - E)) (1075 - E) hlt (by omega)
  rw [show (2 ^ 64 - 1 : Nat) = 18446744073709551615 from by decide] at hm
  rw [hm, Fl.rndW_mid (by omega) (by omega), hE]

set_option maxRecDepth 100000 in
theorem round_any (x : Nat) (w : World) (hx : x < 2 ^ 64) : Calls Try.prog 52 #[.float .f64 x] w fun e w' => e = .returned (.float .f64 (Fl.rndW x)) ∧ w = w' := by
  have hf := field_eq x hx
  have HX := Lib.hid hx
  obtain ⟨E, hE⟩ : ∃ E, x % 2 ^ 63 / 2 ^ 52 = E := ⟨_, rfl⟩
  rw [hE] at hf
  have HE := Lib.hid hE
  clear hx hE
  by_cases c1 : (E : Int) < 1023
  · by_cases c2 : E = 1022
    · have t : ((E : Int) == 1022) = true := by rw [c2]; rfl
      have HV := Lib.hid (one_eq x HX.out)
      have HR := Lib.hid (Fl.rndW_one (x := x) (by rw [HE.out]; exact c2))
      clear c2
      go_enter Try.func52, Try.ntmps52
      go_wp2
      go_ret
      exact ⟨by rw [HR.out, ← HV.out]; rfl, rfl⟩
    · have t : ((E : Int) == 1022) = false := by rw [beq_eq_false_iff_ne]; omega
      have HV := Lib.hid (sign_eq x HX.out)
      have HR := Lib.hid (Fl.rndW_zero (x := x) (by rw [HE.out]; omega))
      clear c2
      go_enter Try.func52, Try.ntmps52
      go_wp2
      go_ret
      exact ⟨by rw [HR.out, HV.out]; rfl, rfl⟩
  · by_cases c2 : (E : Int) < 1075
    · have HV := Lib.hid (mid_eq x E HX.out HE.out (by omega) (by omega))
      go_enter Try.func52, Try.ntmps52
      go_wp2
      go_ret
      exact ⟨by rw [← HV.out]; rfl, rfl⟩
    · have HR := Lib.hid (Fl.rndW_big (x := x) (by rw [HE.out]; omega))
      go_enter Try.func52, Try.ntmps52
      go_wp2
      go_ret
      exact ⟨by rw [HR.out]; rfl, rfl⟩

theorem rndW_lt (x : Nat) (hx : x < 2 ^ 64) : Fl.rndW x < 2 ^ 64 := by
  have h : Fl.rnd (x % 2 ^ 63) < 2 ^ 63 := by
    by_cases c : x % 2 ^ 63 < 1075 * 2 ^ 52
    · exact Fl.rnd_lt _ c
    · unfold Fl.rnd
      rw [if_neg (by omega), if_neg (by omega), if_neg (by omega)]
      exact Nat.mod_lt _ (by decide)
  unfold Fl.rndW
  omega

/-- What std.round comes to. -/
def roundR (x : Nat) : Option Nat := if Fl.numB (Fl.rndW x) then some (Fl.rndW x) else none

theorem make_any (w : World) : Calls Try.prog 42 #[] w
    fun e w' => e = .returned (.func (.func 61) #[] #[.pointer (some ⟨w.heap.size, 0, none⟩)])
      ∧ w.alloc (.cells #[.func (.func 52) #[] #[]] 41) = w' := by
  go_enter Try.func42, Try.ntmps42
  go_wp2
  go_ret
  exact ⟨rfl, rfl⟩

theorem interp_drewN {w : World} {b n : Nat} (h : Interp w b) : Interp (w.drewN n) b := ⟨by simpa using h.loc, by simpa using h.stack⟩

set_option maxHeartbeats 1600000 in
theorem lift_any (bi ba b3 x : Nat) (w : World) (hx : x < 2 ^ 64) (hI : Interp w bi) (ha : w.cell? ⟨ba, 0, none⟩ = some (.float .f64 x)) (h3 : w.cell? ⟨b3, 0, none⟩ = some (.func (.func 52) #[] #[])) :
    Calls Try.prog 61 #[.pointer (some ⟨bi, 0, none⟩), .iface 103 (.pointer (some ⟨ba, 0, none⟩)), .pointer (some ⟨b3, 0, none⟩)] w (NumRes (roundR x) w) := by
  have HX := Lib.hid hx
  have HL := Lib.hid (rndW_lt x hx)
  have hi1 := hI.loc
  have hi2 := hI.stack
  clear hx hI
  cases hn : Fl.numB (Fl.rndW x)
  · have HR : Hid (roundR x = none) := Lib.hid (by unfold roundR; rw [hn]; rfl)
    have HN := Lib.hid hn
    clear hn
    go_enter Try.func61, Try.ntmps61
    go_wp2_with (go_at_call 45; refine (getNumber_any _ _ _).mono ?_; rintro e w1 ⟨rfl, rfl⟩)
    go_region_held3 (fun w' => w'.cell? ⟨ba, 0, none⟩ = some (.float .f64 x) ∧ w'.cell? ⟨b3, 0, none⟩ = some (.func (.func 52) #[] #[])) (go_keep)
      (first | (go_at_call 52; refine (round_any _ _ HX.out).mono ?_; rintro e w1 ⟨rfl, rfl⟩) | (go_at_call 47; refine (check_not bi _ _ HL.out HN.out ⟨?_, ?_⟩).mono ?_; (simp [*]); (simp [*]); rintro e w1 ⟨v, rfl, hb1⟩; have k1 : w1.cell? ⟨ba, 0, none⟩ = some (.float .f64 x) := cell_later hb1 (by simpa using ha); have k2 : w1.cell? ⟨b3, 0, none⟩ = some (.func (.func 52) #[] #[]) := cell_later hb1 (by simpa using h3)))
    all_goals
      go_wp2
      go_ret2
      rw [HR.out]
      exact ⟨v, rfl, (below_drewN (Below.refl _ _) 1).trans hb1⟩
  · have HR : Hid (roundR x = some (Fl.rndW x)) := Lib.hid (by unfold roundR; rw [hn]; rfl)
    have HN := Lib.hid hn
    clear hn
    go_enter Try.func61, Try.ntmps61
    go_wp2_with (go_at_call 45; refine (getNumber_any _ _ _).mono ?_; rintro e w1 ⟨rfl, rfl⟩)
    go_region_held3 (fun w' => w'.cell? ⟨ba, 0, none⟩ = some (.float .f64 x) ∧ w'.cell? ⟨b3, 0, none⟩ = some (.func (.func 52) #[] #[])) (go_keep)
      (first | (go_at_call 52; refine (round_any _ _ HX.out).mono ?_; rintro e w1 ⟨rfl, rfl⟩) | (go_at_call 47; refine (check_num _ _ _ HL.out HN.out).mono ?_; rintro e w1 ⟨rfl, rfl⟩))
    all_goals
      go_wp2
      go_ret2
      rw [HR.out]
      exact ⟨_, rfl, by simp, by go_grown⟩

theorem part_any (x : Nat) (w : World) (hx : x < 2 ^ 64) : Calls Try.prog 30 #[.float .f64 x] w (PartRes (roundR x) w) := by
  have HX := Lib.hid hx
  clear hx
  go_enter Try.func30, Try.ntmps30
  go_wp2_with fail
  refine (make_any _).mono ?_
  rintro e w1 ⟨rfl, rfl⟩
  go_wp2_with fail
  refine (num_any _ _).mono ?_
  rintro e w1 ⟨rfl, rfl⟩
  go_wp2_with fail
  refine (lift_any _ _ _ x _ HX.out ⟨by go_simp, by go_simp⟩ (by go_simp) (by go_simp)).mono ?_
  intro e w1 h
  cases hr : roundR x with
  | none =>
    rw [hr] at h
    obtain ⟨v, rfl, hb⟩ := h
    have HR := Lib.hid hr
    clear hr
    go_wp2_with fail
    refine (numOf_err _ _).mono ?_
    rintro e w2 ⟨rfl, rfl⟩
    go_wp2
    go_ret2
    rw [HR.out]
    exact ⟨v, rfl, Below.trans (by go_grown) (hb.mono (by simp; omega))⟩
  | some r =>
    rw [hr] at h
    obtain ⟨b, rfl, hc, hb⟩ := h
    have HR := Lib.hid hr
    have HC := Lib.hid hc
    clear hr hc
    go_wp2_with fail
    refine (numOf_ok _ r _ HC.out).mono ?_
    rintro e w2 ⟨rfl, rfl⟩
    go_wp2
    go_ret2
    rw [HR.out]
    exact ⟨rfl, Below.trans (by go_grown) (hb.mono (by simp; omega))⟩

theorem door_any (x : Nat) (w : World) (hx : x < 2 ^ 64) : Calls Try.prog 18 #[.float .f64 x] w (DoorTold (roundR x) w) := by
  have HX := Lib.hid hx
  clear hx
  go_enter Try.func18, Try.ntmps18
  go_wp2_with fail
  refine (part_any _ _ HX.out).mono ?_
  intro e w1 h
  cases hr : roundR x with
  | none =>
    rw [hr] at h
    obtain ⟨v, rfl, hb⟩ := h
    have HR := Lib.hid hr
    clear hr
    go_wp2_with fail
    refine (number_err _ _ _).mono ?_
    rintro e w2 ⟨rfl, rfl⟩
    go_wp2
    go_ret2
    rw [HR.out]
    exact ⟨rfl, hb⟩
  | some r =>
    rw [hr] at h
    obtain ⟨rfl, hb⟩ := h
    have HR := Lib.hid hr
    clear hr
    go_wp2_with fail
    refine (number_ok _ _).mono ?_
    rintro e w2 ⟨rfl, rfl⟩
    go_wp2
    go_ret2
    rw [HR.out]
    exact ⟨rfl, hb⟩

/-- math.Trunc at a number. -/
theorem run_trunc (x : Nat) (w : World) (hx : Fl.isNum x) : (callFunc 53 #[.float .f64 x]).run Try.prog w = .ok (.value (.float .f64 (Ieee.double.write ((Ieee.double.read x).integral .zero)))) w := by
  obtain ⟨s, m, e, h⟩ := hx
  have h' : FloatKind.f64.decode x = .number s m e := h
  rw [run_callFunc_extern (e := Extern.MathFloor.toIntegral "math.archTrunc" .zero) Try.func53 (by kernel_rfl) (by kernel_rfl) (by kernel_rfl) (by kernel_rfl)]
  change ((Sem.run Try.prog (match FloatKind.f64.decode x with | .nan _ _ => _ | d => pure (Value.float .f64 (FloatKind.f64.encode (d.integral .zero)))) w).andThen _) = _
  rw [h', h]
  rfl

end Go.Proofs.Ytikddahaghmklaa.fnNumRound
