/-
  The division that FnNumOver reaches: what it comes to for every two doubles.
  No condition beyond the arguments being words of doubles.
-/
import Derived.Test.YtikddahaghmklaaNumDoor
import Derived.StillTailTactics
import Derived.Deep.QuietTactic
import Derived.BigQuiet
import Derived.RegionTactic
import Derived.ChangeAlike
import Derived.Deep.RegionWith
import Derived.BigRegion
namespace Go.Proofs.Ytikddahaghmklaa.fnNumOver
open Go.RowKit Go.Proofs.Ytikddahaghmklaa.Num

/-- The NaN that the tape gives. -/
def nanOf (x y : Nat) (w : World) : Nat := Question.cut (.nanBits .f64 x y) (w.tape w.drawn (.nanBits .f64 x y))

theorem nanOf_eq (x y : Nat) (w : World) : ∃ a c, a < 2 ∧ c < 2 ^ 52 - 1 ∧ nanOf x y w = a * 2 ^ 63 + 0x7ff0000000000000 + 1 + c :=
  ⟨_, _, Nat.mod_lt _ (by decide), Nat.mod_lt _ (by decide), rfl⟩

theorem nanOf_lt (x y : Nat) (w : World) : nanOf x y w < 2 ^ 64 := by
  obtain ⟨a, c, ha, hc, e⟩ := nanOf_eq x y w
  rw [e]
  exact Fl.nan_lt a c ha hc

theorem nanOf_num (x y : Nat) (w : World) : Fl.numB (nanOf x y w) = false := by
  obtain ⟨a, c, ha, hc, e⟩ := nanOf_eq x y w
  rw [e]
  exact Fl.nan_word a c hc

theorem run_nan {P : Program} (w : World) (t : TypeId) (x y : Nat) (h : Ieee.double.div x y = none) : (binOp .quo t (.float .f64 x) (.float .f64 y)).run P w = .ok (.float .f64 (nanOf x y w)) w.drew := by
  have h' : FloatKind.f64.format.div x y = none := h
  simp [binOp, Op.floatArith, h', Question.forced]
  rfl

/-- What x / y comes to: a number, or none. -/
def overR (x y : Nat) : Option Nat := if FloatKind.f64.format.order y 0 == some .eq then none else match Ieee.double.div x y with | some r => if Fl.numB r then some r else none | none => none

set_option maxRecDepth 100000 in
set_option maxHeartbeats 1000000 in
theorem div_any (bi ba bb x y : Nat) (w : World) (hI : Interp w bi) (ha : w.cell? ⟨ba, 0, none⟩ = some (.float .f64 x)) (hb : w.cell? ⟨bb, 0, none⟩ = some (.float .f64 y)) :
    Calls Try.prog 39 #[.pointer (some ⟨bi, 0, none⟩), .iface 103 (.pointer (some ⟨ba, 0, none⟩)), .iface 103 (.pointer (some ⟨bb, 0, none⟩))] w (NumRes (overR x y) w) := by
  have HI := Lib.hid hI
  clear hI
  cases h0 : FloatKind.f64.format.order y 0 == some .eq
  · cases hq : Ieee.double.div x y with
    | some r =>
      have hop := fun w => run_float_arith (P := Try.prog) w .quo 30 .f64 x y r hq
      go_enter Try.func39, Try.ntmps39
      go_wp2_with (go_at_call 45; refine (getNumber_any _ _ _).mono ?_; rintro e w1 ⟨rfl, rfl⟩)
      cases hn : Fl.numB r
      · have hr : overR x y = none := by unfold overR; rw [if_neg (by rw [h0]; decide), hq]; simp [hn]
        have HR := Lib.hid hr
        have HN := Lib.hid hn
        clear hr hn
        go_region_with (go_at_call 47; refine (check_not bi _ _ (Ieee.Format.div_lt _ hq) HN.out (HI.out.drew)).mono ?_; rintro e w1 ⟨v, rfl, hb1⟩)
        all_goals
          go_wp2
          go_ret2
          rw [HR.out]
          exact ⟨v, rfl, (below_drewN (Below.refl _ _) 1).trans hb1⟩
      · have hr : overR x y = some r := by unfold overR; rw [if_neg (by rw [h0]; decide), hq]; simp [hn]
        have HR := Lib.hid hr
        have HN := Lib.hid hn
        clear hr hn
        go_region_with (go_at_call 47; refine (check_num _ _ _ (Ieee.Format.div_lt _ hq) HN.out).mono ?_; rintro e w1 ⟨rfl, rfl⟩)
        all_goals
          go_wp2
          go_ret2
          rw [HR.out]
          exact ⟨_, rfl, by simp, by go_grown⟩
    | none =>
      have hop := fun w => run_nan (P := Try.prog) w 30 x y hq
      have hr : overR x y = none := by unfold overR; rw [if_neg (by rw [h0]; decide), hq]
      have HR := Lib.hid hr
      clear hr hq
      go_enter Try.func39, Try.ntmps39
      go_wp2_with (go_at_call 45; refine (getNumber_any _ _ _).mono ?_; rintro e w1 ⟨rfl, rfl⟩)
      go_region_with (go_at_call 47; refine (check_not bi _ _ (nanOf_lt _ _ _) (nanOf_num _ _ _) (HI.out.drew.drew)).mono ?_; rintro e w1 ⟨v, rfl, hb1⟩)
      all_goals
        go_wp2
        go_ret2
        rw [HR.out]
        exact ⟨v, rfl, (below_drewN (Below.refl _ _) 2).trans hb1⟩
  · have hr : overR x y = none := by unfold overR; rw [if_pos h0]
    have HR := Lib.hid hr
    clear hr
    go_enter Try.func39, Try.ntmps39
    go_wp2_with (go_at_call 45; refine (getNumber_any _ _ _).mono ?_; rintro e w1 ⟨rfl, rfl⟩)
    refine (error_any bi _ _ HI.out).mono ?_
    rintro e w1 ⟨v, rfl, hb1⟩
    go_wp2
    go_ret2
    rw [HR.out]
    exact ⟨v, rfl, hb1⟩

end Go.Proofs.Ytikddahaghmklaa.fnNumOver
