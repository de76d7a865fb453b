/-
  Contracts of the small functions on doubles that the statements on numbers reach: what each returns; the world stays as it is.
  No condition beyond the arguments being words of doubles.
-/
import Derived.Test.YtikddahaghmklaaRows
import Derived.Test.YtikddahaghmklaaFl
import Derived.WalkKit
import Derived.Below
import Derived.Outline
import Derived.OpenShut
import Derived.Handy
import Derived.LoopTactic
import Derived.WalkLawsBesides
import Derived.WalkSpells
import Derived.Laws.FloatArith
import Derived.Laws.BitsAllLaws
import Derived.Lib.Hide
namespace Go.Proofs.Ytikddahaghmklaa.Num
open Go.RowKit

/-- A double's bits, and back: what stands in for the two body-less functions. -/
@[go_sem] theorem run_bits (x : Nat) (w : World) : (callFunc 32 #[.float .f64 x]).run Try.prog w = .ok (.value (.int .u64 x)) w := by
  rw [run_callFunc_extern (e := Extern.MathFloatBits.float64bits) Try.func32 (by kernel_rfl) (by kernel_rfl) (by kernel_rfl) (by kernel_rfl)]; rfl
@[go_sem] theorem run_frombits (n : Int) (w : World) : (callFunc 31 #[.int .u64 n]).run Try.prog w = .ok (.value (.float .f64 n.toNat)) w := by
  rw [run_callFunc_extern (e := Extern.MathFloatBits.float64frombits) Try.func31 (by kernel_rfl) (by kernel_rfl) (by kernel_rfl) (by kernel_rfl)]; rfl

theorem isnan_any (x : Nat) (w : World) : Calls Try.prog 36 #[.float .f64 x] w fun e w' => e = .returned (.bool (FloatKind.f64.format.order x x != some .eq)) ∧ w = w' := by
  go_enter Try.func36, Try.ntmps36
  go_wp2
  go_ret
  exact ⟨rfl, rfl⟩

theorem abs_bits (x : Nat) (hx : x < 2 ^ 64) : (bits BinOp.andNot IntKind.u64 (x : Int) 9223372036854775808).toNat = x % 2 ^ 63 := by
  rw [show (9223372036854775808 : Int) = ((9223372036854775808 : Nat) : Int) from rfl, u64_andNot_nat x 9223372036854775808 (by simpa using hx) (by decide), Int.toNat_natCast]
  rw [show 18446744073709551615 - 9223372036854775808 = 2 ^ 63 - 1 from by decide, Nat.and_two_pow_sub_one_eq_mod]

theorem abs_any (x : Nat) (w : World) (hx : x < 2 ^ 64) : Calls Try.prog 19 #[.float .f64 x] w fun e w' => e = .returned (.float .f64 (x % 2 ^ 63)) ∧ w = w' := by
  have HA := Lib.hid (abs_bits x hx)
  clear hx
  go_enter Try.func19, Try.ntmps19
  go_wp2
  go_ret
  exact ⟨by rw [HA.out]; rfl, rfl⟩

/-- math.IsInf(x, 0). -/
theorem isinf_any (x : Nat) (w : World) (hx : x < 2 ^ 64) : Calls Try.prog 37 #[.float .f64 x, .int .i64 0] w fun e w' => e = .returned (.bool (FloatKind.f64.format.order (x % 2 ^ 63) 9218868437227405311 == some .gt)) ∧ w = w' := by
  have HX := Lib.hid hx
  clear hx
  go_enter Try.func37, Try.ntmps37
  go_wp2_with fail
  refine (abs_any _ _ HX.out).mono ?_
  rintro e w1 ⟨rfl, rfl⟩
  go_wp2
  go_ret
  exact ⟨rfl, rfl⟩

theorem finite1_any (x : Nat) (w : World) (hx : x < 2 ^ 64) : Calls Try.prog 26 #[.float .f64 x] w fun e w' => e = .returned (.bool (Fl.numB x)) ∧ w = w' := by
  have hd : FloatKind.f64.format = Ieee.double := rfl
  have hcase : Fl.numB x = true ∧ (FloatKind.f64.format.order x x != some .eq) = false ∧ (FloatKind.f64.format.order (x % 2 ^ 63) 9218868437227405311 == some .gt) = false ∨ Fl.numB x = false ∧ ((FloatKind.f64.format.order x x != some .eq) = true ∨ (FloatKind.f64.format.order x x != some .eq) = false ∧ (FloatKind.f64.format.order (x % 2 ^ 63) 9218868437227405311 == some .gt) = true) := by
    rw [hd]
    cases h : Fl.numB x
    · exact .inr ⟨rfl, Fl.not_num h⟩
    · have h' := (Fl.numB_iff x).1 h
      exact .inl ⟨rfl, Fl.nan_num h', Fl.inf_num h'⟩
  have HX := Lib.hid hx
  clear hx hd
  rcases hcase with ⟨hn, h1, h2⟩ | ⟨hn, h1 | ⟨h1, h2⟩⟩
  · rw [hn]
    clear hn
    have H1 := Lib.hid h1
    have H2 := Lib.hid h2
    clear h1 h2
    go_enter Try.func26, Try.ntmps26
    go_wp2_with fail
    refine (isnan_any _ _).mono ?_
    rintro e w1 ⟨rfl, rfl⟩
    rw [H1.out]
    go_wp2_with fail
    refine (isinf_any _ _ HX.out).mono ?_
    rintro e w1 ⟨rfl, rfl⟩
    rw [H2.out]
    go_wp2
    go_ret
    exact ⟨rfl, rfl⟩
  · rw [hn]
    clear hn
    have H1 := Lib.hid h1
    clear h1
    go_enter Try.func26, Try.ntmps26
    go_wp2_with fail
    refine (isnan_any _ _).mono ?_
    rintro e w1 ⟨rfl, rfl⟩
    rw [H1.out]
    go_wp2
    go_ret
    exact ⟨rfl, rfl⟩
  · rw [hn]
    clear hn
    have H1 := Lib.hid h1
    have H2 := Lib.hid h2
    clear h1 h2
    go_enter Try.func26, Try.ntmps26
    go_wp2_with fail
    refine (isnan_any _ _).mono ?_
    rintro e w1 ⟨rfl, rfl⟩
    rw [H1.out]
    go_wp2_with fail
    refine (isinf_any _ _ HX.out).mono ?_
    rintro e w1 ⟨rfl, rfl⟩
    rw [H2.out]
    go_wp2
    go_ret
    exact ⟨rfl, rfl⟩

theorem all_take_succ (xs : List Nat) (k : Nat) (h : k < xs.length) : (xs.take (k + 1)).all Fl.numB = ((xs.take k).all Fl.numB && Fl.numB (xs.getD k 0)) := by
  rw [List.take_succ_eq_append_getElem h, List.all_append]
  simp [List.getD_eq_getElem?_getD, h]

/-- laws.finite of numbers that lie in a row. -/
theorem finite_any (b n : Nat) (xs : List Nat) (w : World) (hn : n = xs.length) (hl : n ≤ 1000) (hx : ∀ i, i < n → xs.getD i 0 < 2 ^ 64) (hc : ∀ i, i < n → w.cell? ⟨b, i, none⟩ = some (.float .f64 (xs.getD i 0))) :
    Calls Try.prog 14 #[.slice (some ⟨b, 0, none⟩) n n] w fun e w' => e = .returned (.bool (xs.all Fl.numB)) ∧ w = w' := by
  have HN := Lib.hid hn
  have HX := Lib.hid hx
  have HC := Lib.hid hc
  clear hn hx hc
  go_enter Try.func14, Try.ntmps14
  go_wp2
  go_loop [3] (fun i => ∃ k : Nat, k ≤ n ∧ i = .int .i64 k ∧ Hid ((xs.take k).all Fl.numB = true)) (fun i => n - (intOf i).toNat)
  case atStart => exact ⟨0, Nat.zero_le _, rfl, Lib.hid (by simp)⟩
  case round =>
    obtain ⟨k, hk, rfl, HT⟩ := hrel
    by_cases hlt : k < n
    · have hcell := HC.out k hlt
      go_wp2_with fail
      refine (finite1_any _ _ (HX.out k hlt)).mono ?_
      rintro e w1 ⟨rfl, rfl⟩
      cases hb : Fl.numB (xs.getD k 0)
      · have hall : xs.all Fl.numB = false := by
          have hm : xs.getD k 0 ∈ xs := by
            have : k < xs.length := by have := HN.out; omega
            rw [List.getD_eq_getElem?_getD, List.getElem?_eq_getElem this]
            exact List.getElem_mem this
          rw [Bool.eq_false_iff]
          intro h
          have := List.all_eq_true.1 h _ hm
          rw [hb] at this; cases this
        go_wp2
        go_ret
        exact ⟨by first | rfl | (rw [hall]; rfl), rfl⟩
      · have HS : Hid ((xs.take (k + 1)).all Fl.numB = true) := Lib.hid (by
          rw [all_take_succ xs k (by have := HN.out; omega), HT.out, hb]; rfl)
        go_wp2
        go_round
        case rel => exact ⟨k + 1, by omega, by go_num, HS⟩
        case measure => simp [intOf]; omega
    · have hall : xs.all Fl.numB = true := by
        have := HT.out
        rwa [List.take_of_length_le (by have := HN.out; omega)] at this
      go_wp2
      go_ret
      exact ⟨by first | rfl | (rw [hall]; rfl), rfl⟩

theorem cmp_any (x y : Nat) (w : World) : Calls Try.prog 13 #[.float .f64 x, .float .f64 y] w fun e w' => e = .returned (.int .i64 (Fl.cmpF x y)) ∧ w = w' := by
  unfold Fl.cmpF
  have hd : Ieee.double = FloatKind.f64.format := rfl
  rw [hd]
  cases h1 : (FloatKind.f64.format.order x y == some .lt)
  · cases h2 : (FloatKind.f64.format.order x y == some .gt)
    all_goals
      go_enter Try.func13, Try.ntmps13
      go_wp2
      go_ret
      exact ⟨rfl, rfl⟩
  · go_enter Try.func13, Try.ntmps13
    go_wp2
    go_ret
    exact ⟨rfl, rfl⟩
end Go.Proofs.Ytikddahaghmklaa.Num
