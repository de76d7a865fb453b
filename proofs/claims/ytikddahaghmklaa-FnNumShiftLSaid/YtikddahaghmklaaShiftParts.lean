/-
  The shift that FnNumShiftL reaches: what it comes to for whole numbers x below 2 to the power of 21 and y from 0 to 31.
-/
import Derived.Test.YtikddahaghmklaaNumDoor
import Derived.Test.YtikddahaghmklaaFlShift
import Derived.StillTailTactics
import Derived.Deep.QuietTactic
import Derived.BigQuiet
import Derived.RegionTactic
import Derived.ChangeAlike
import Derived.Deep.RegionWith
import Derived.BigRegion
import Derived.Deep.RegionHeld3
namespace Go.Proofs.Ytikddahaghmklaa.fnNumShiftL
open Go.RowKit Go.Proofs.Ytikddahaghmklaa.Num

theorem shl_val (x y : Int) (hx0 : 0 ≤ x) (hx1 : x < 2097152) (hy0 : 0 ≤ y) (hy1 : y ≤ 31) : wrap64 (x * 2 ^ (y % 64).toNat) = x * 2 ^ y.toNat := by
  rw [show y % 64 = y by omega]
  obtain ⟨n, rfl⟩ := Int.eq_ofNat_of_zero_le hx0
  have h2 : (2 : Int) ^ y.toNat = ((2 ^ y.toNat : Nat) : Int) := by simp
  rw [h2, ← Int.natCast_mul]
  have h3 : 2 ^ y.toNat ≤ 2 ^ 31 := Nat.pow_le_pow_right (by omega) (by omega)
  have h4 : n * 2 ^ y.toNat ≤ 2097152 * 2 ^ 31 := Nat.mul_le_mul (by omega) h3
  generalize n * 2 ^ y.toNat = k at *
  unfold wrap64
  omega

theorem shl_any (x y : Int) (w : World) (hx0 : 0 ≤ x) (hx1 : x < 2097152) (hy0 : 0 ≤ y) (hy1 : y ≤ 31) :
    Calls Try.prog 50 #[.int .i64 x, .int .i64 y] w fun e w' => e = .returned (.int .i64 (x * 2 ^ y.toNat)) ∧ w = w' := by
  have HV := Lib.hid (shl_val x y hx0 hx1 hy0 hy1)
  go_enter Try.func50, Try.ntmps50
  go_wp2
  go_ret
  exact ⟨by rw [HV.out]; rfl, rfl⟩

theorem make_any (w : World) : Calls Try.prog 41 #[] w
    fun e w' => e = .returned (.func (.func 60) #[] #[.pointer (some ⟨w.heap.size + 1, 0, none⟩), .pointer (some ⟨w.heap.size, 0, none⟩)])
      ∧ (w.alloc (.cells #[.func (.func 50) #[] #[]] 111)).alloc (.cells #[.bool true] 4) = w' := by
  go_enter Try.func41, Try.ntmps41
  go_wp2
  go_ret
  exact ⟨rfl, rfl⟩

/-- The facts on the doubles of two whole numbers that the lifted shift asks. -/
structure Fits (X Y : Nat) (x y : Int) : Prop where
  x0 : 0 ≤ x
  x1 : x < 2097152
  y0 : 0 ≤ y
  y1 : y ≤ 31
  X1 : (FloatKind.f64.format.order X 14069245235905429503 == some .lt) = false
  X2 : (FloatKind.f64.format.order X 4845873199050653695 == some .gt) = false
  Y1 : (FloatKind.f64.format.order Y 14069245235905429503 == some .lt) = false
  Y2 : (FloatKind.f64.format.order Y 4845873199050653695 == some .gt) = false
  Y3 : (FloatKind.f64.format.order Y 0 == some .lt) = false
  cX : floatToIntVal .f64 X .i64 = some x
  cY : floatToIntVal .f64 Y .i64 = some y
  rn : Fl.numB (floatOfInt .f64 (x * 2 ^ y.toNat)) = true
  rl : floatOfInt .f64 (x * 2 ^ y.toNat) < 2 ^ 64

set_option maxHeartbeats 1600000 in
theorem lift_any (bi ba bb b3 b4 X Y : Nat) (x y : Int) (w : World) (F : Fits X Y x y) (ha : w.cell? ⟨ba, 0, none⟩ = some (.float .f64 X)) (hb : w.cell? ⟨bb, 0, none⟩ = some (.float .f64 Y))
    (h3 : w.cell? ⟨b3, 0, none⟩ = some (.bool true)) (h4 : w.cell? ⟨b4, 0, none⟩ = some (.func (.func 50) #[] #[])) :
    Calls Try.prog 60 #[.pointer (some ⟨bi, 0, none⟩), .iface 103 (.pointer (some ⟨ba, 0, none⟩)), .iface 103 (.pointer (some ⟨bb, 0, none⟩)), .pointer (some ⟨b3, 0, none⟩), .pointer (some ⟨b4, 0, none⟩)] w
      (NumRes (some (floatOfInt .f64 (x * 2 ^ y.toNat))) w) := by
  have hX1 := F.X1
  have hX2 := F.X2
  have hY1 := F.Y1
  have hY2 := F.Y2
  have hY3 := F.Y3
  have HF := Lib.hid F
  clear F
  go_enter Try.func60, Try.ntmps60
  go_wp2_with (go_at_call 45; refine (getNumber_any _ _ _).mono ?_; rintro e w1 ⟨rfl, rfl⟩)
  have hcX := fun w => run_convert_float_int (P := Try.prog) w 30 2 .f64 .i64 X x (by rw [Try.underlying30]; rfl) Try.underlying2 HF.out.cX
  have hcY := fun w => run_convert_float_int (P := Try.prog) w 30 2 .f64 .i64 Y y (by rw [Try.underlying30]; rfl) Try.underlying2 HF.out.cY
  go_region_held3 (fun w' => w'.cell? ⟨ba, 0, none⟩ = some (.float .f64 X) ∧ w'.cell? ⟨bb, 0, none⟩ = some (.float .f64 Y) ∧ w'.cell? ⟨b4, 0, none⟩ = some (.func (.func 50) #[] #[])) (go_keep)
    (first | (go_at_call 50; refine (shl_any _ _ _ HF.out.x0 HF.out.x1 HF.out.y0 HF.out.y1).mono ?_; rintro e w1 ⟨rfl, rfl⟩) | (go_at_call 47; refine (check_num _ _ _ HF.out.rl HF.out.rn).mono ?_; rintro e w1 ⟨rfl, rfl⟩))
  all_goals
    go_wp2
    go_ret2
    exact ⟨_, rfl, by simp, by go_grown⟩
end Go.Proofs.Ytikddahaghmklaa.fnNumShiftL
