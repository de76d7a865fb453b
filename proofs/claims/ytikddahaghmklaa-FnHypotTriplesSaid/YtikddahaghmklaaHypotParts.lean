/-
  The hypotenuse that FnHypotTriples reaches: what the door's function comes to for two numbers.
  Conditions: those that each theorem names.
-/
import Derived.Test.YtikddahaghmklaaNumDoor
import Derived.Test.YtikddahaghmklaaFlShift
import Derived.StillTailTactics
import Derived.Deep.QuietTactic
import Derived.BigQuiet
import Derived.RegionTactic
import Derived.ChangeAlike
import Derived.Deep.RegionWith
import Derived.BigRegion
import Derived.Deep.RegionHeld3
namespace Go.Proofs.Ytikddahaghmklaa.fnHypotTriples
open Go.RowKit Go.Proofs.Ytikddahaghmklaa.Num

theorem hypOf_steps {big small n : Nat} (h : Fl.hypOf big small = some n) : ∃ r rr t u, Ieee.double.div small big = some r ∧ Ieee.double.mul r r = some rr ∧ Ieee.double.add rr 0x3FF0000000000000 = some t ∧ Ieee.double.sqrt t = some u ∧ Ieee.double.mul u big = some n := by
  unfold Fl.hypOf at h
  cases h1 : Ieee.double.div small big with
  | none => rw [h1] at h; cases h
  | some r =>
    rw [h1] at h
    simp only [Option.bind_eq_bind, Option.bind_some] at h
    cases h2 : Ieee.double.mul r r with
    | none => rw [h2] at h; cases h
    | some rr =>
      rw [h2] at h
      simp only [Option.bind_some] at h
      cases h3 : Ieee.double.add rr 0x3FF0000000000000 with
      | none => rw [h3] at h; cases h
      | some t =>
        rw [h3] at h
        simp only [Option.bind_some] at h
        cases h4 : Ieee.double.sqrt t with
        | none => rw [h4] at h; cases h
        | some u =>
          rw [h4] at h
          simp only [Option.bind_some] at h
          exact ⟨r, rr, t, u, rfl, h2, h3, h4, h⟩

theorem abs_lt_inf {P : Nat} (h : Fl.isNum P) : P % 2 ^ 63 < 0x7FF0000000000000 := by
  have := Fl.is_lt_inf (Fl.abs_is (Fl.num_is h)) (Nat.mod_lt _ (by decide))
  have e : (2047 * 2 ^ 52 : Nat) = 0x7FF0000000000000 := by decide
  rwa [e] at this

theorem run_arith {P : Program} (op : BinOp) (x y r : Nat) (w : World) (h : floatBits op .f64 x y = some r) : (Extern.MathAsm.arith op x y).run P w = .ok r w := by
  unfold floatBits at h
  unfold Extern.MathAsm.arith Op.floatArith
  cases op <;> simp only at h <;> first | (cases h; done) | skip
  all_goals simp [h]

theorem run_sqrt {P : Program} (t u : Nat) (w : World) (h : Ieee.double.sqrt t = some u) : (Extern.MathSqrt.sqrt #[.float .f64 t]).run P w = .ok (.float .f64 u) w := by
  have h' : FloatKind.f64.format.sqrt t = some u := h
  change Sem.run P (match FloatKind.f64.format.sqrt t with | some r => pure (Value.float .f64 r) | none => _) w = _
  rw [h']
  rfl

theorem run_hyp {P : Program} (p q n : Nat) (w : World) (hp : Fl.isNum p) (hq : Fl.isNum q) (h : Fl.hyp p q = some n) : (Extern.MathHypot.archHypot #[.float .f64 p, .float .f64 q]).run P w = .ok (.float .f64 n) w := by
  have lp := abs_lt_inf hp
  have lq := abs_lt_inf hq
  unfold Fl.hyp at h
  change Sem.run P (@ite _ _ _ (pure _) (@ite _ _ _ (pure _) (@ite _ _ _ (pure _) _))) w = _
  dsimp only
  generalize p % 2 ^ 63 = P' at *
  generalize q % 2 ^ 63 = Q' at *
  have e0 : Extern.MathAsm.posInf = 0x7FF0000000000000 := rfl
  have e1 : (P' == Extern.MathAsm.posInf) = false := beq_eq_false_iff_ne.2 (by rw [e0]; omega)
  have e2 : (Q' == Extern.MathAsm.posInf) = false := beq_eq_false_iff_ne.2 (by rw [e0]; omega)
  have e3 : decide (P' > Extern.MathAsm.posInf) = false := decide_eq_false (by rw [e0]; omega)
  have e4 : decide (Q' > Extern.MathAsm.posInf) = false := decide_eq_false (by rw [e0]; omega)
  rw [if_neg (by rw [e1, e2]; decide), if_neg (by rw [e3, e4]; decide)]
  by_cases c : P' = 0 ∧ Q' = 0
  · rw [if_pos c] at h
    cases h
    obtain ⟨rfl, rfl⟩ := c
    simp
  · rw [if_neg c] at h
    have e5 : (P' == 0 && Q' == 0) = false := by
      rw [Bool.eq_false_iff]
      intro hh
      simp at hh
      exact c hh
    rw [if_neg (by rw [e5]; decide)]
    by_cases cl : (Ieee.double.order P' Q' == some .lt) = true
    · rw [if_pos cl] at h
      have cl' : Extern.MathAsm.lt P' Q' = true := cl
      obtain ⟨r, rr, t, u, a1, a2, a3, a4, a5⟩ := hypOf_steps h
      have b1 := run_arith (P := P) .quo _ _ r w a1
      have b2 := run_arith (P := P) .mul r r rr w a2
      have b3 := run_arith (P := P) .add rr 0x3FF0000000000000 t w a3
      have b4 := run_sqrt (P := P) t u w a4
      have b5 := run_arith (P := P) .mul u _ n w a5
      simp [Extern.MathAsm.div, Extern.MathAsm.mul, Extern.MathAsm.add, Extern.MathAsm.one, b1, b2, b3, b4, b5, cl']
    · rw [if_neg cl] at h
      have cl' : Extern.MathAsm.lt P' Q' = false := by
        cases hh : Extern.MathAsm.lt P' Q'
        · rfl
        · exact absurd hh cl
      obtain ⟨r, rr, t, u, a1, a2, a3, a4, a5⟩ := hypOf_steps h
      have b1 := run_arith (P := P) .quo _ _ r w a1
      have b2 := run_arith (P := P) .mul r r rr w a2
      have b3 := run_arith (P := P) .add rr 0x3FF0000000000000 t w a3
      have b4 := run_sqrt (P := P) t u w a4
      have b5 := run_arith (P := P) .mul u _ n w a5
      simp [Extern.MathAsm.div, Extern.MathAsm.mul, Extern.MathAsm.add, Extern.MathAsm.one, b1, b2, b3, b4, b5, cl']

/-- math.archHypot's stand-in, at two numbers. -/
theorem run_call (p q n : Nat) (w : World) (hp : Fl.isNum p) (hq : Fl.isNum q) (h : Fl.hyp p q = some n) : (callFunc 64 #[.float .f64 p, .float .f64 q]).run Try.prog w = .ok (.value (.float .f64 n)) w := by
  rw [run_callFunc_extern (e := Extern.MathHypot.archHypot) Try.func64 (by kernel_rfl) (by kernel_rfl) (by kernel_rfl) (by kernel_rfl), run_hyp p q n w hp hq h]; rfl

theorem hypot_any (p q n : Nat) (w : World) (hp : Fl.isNum p) (hq : Fl.isNum q) (h : Fl.hyp p q = some n) : Calls Try.prog 56 #[.float .f64 p, .float .f64 q] w fun e w' => e = .returned (.float .f64 n) ∧ w = w' := by
  have hc := fun w => run_call p q n w hp hq h
  clear hp hq h
  go_enter Try.func56, Try.ntmps56
  go_wp2
  go_ret
  exact ⟨rfl, rfl⟩

theorem make_any (w : World) : Calls Try.prog 44 #[] w
    fun e w' => e = .returned (.func (.func 63) #[] #[.pointer (some ⟨w.heap.size, 0, none⟩)])
      ∧ w.alloc (.cells #[.func (.func 56) #[] #[]] 114) = w' := by
  go_enter Try.func44, Try.ntmps44
  go_wp2
  go_ret
  exact ⟨rfl, rfl⟩

set_option maxHeartbeats 1600000 in
theorem lift_any (bi ba bb b3 p q n : Nat) (w : World) (hp : Fl.isNum p) (hq : Fl.isNum q) (h : Fl.hyp p q = some n) (hn : Fl.numB n = true) (hl : n < 2 ^ 64) (ha : w.cell? ⟨ba, 0, none⟩ = some (.float .f64 p)) (hb : w.cell? ⟨bb, 0, none⟩ = some (.float .f64 q))
    (h3 : w.cell? ⟨b3, 0, none⟩ = some (.func (.func 56) #[] #[])) :
    Calls Try.prog 63 #[.pointer (some ⟨bi, 0, none⟩), .iface 103 (.pointer (some ⟨ba, 0, none⟩)), .iface 103 (.pointer (some ⟨bb, 0, none⟩)), .pointer (some ⟨b3, 0, none⟩)] w
      (NumRes (some n) w) := by
  have HP := Lib.hid hp
  have HQ := Lib.hid hq
  have HH := Lib.hid h
  have HN := Lib.hid hn
  have HL := Lib.hid hl
  clear hp hq h hn hl
  go_enter Try.func63, Try.ntmps63
  go_wp2_with (go_at_call 45; refine (getNumber_any _ _ _).mono ?_; rintro e w1 ⟨rfl, rfl⟩)
  go_region_held3 (fun w' => w'.cell? ⟨ba, 0, none⟩ = some (.float .f64 p) ∧ w'.cell? ⟨bb, 0, none⟩ = some (.float .f64 q) ∧ w'.cell? ⟨b3, 0, none⟩ = some (.func (.func 56) #[] #[])) (go_keep)
    (first | (go_at_call 56; refine (hypot_any _ _ _ _ HP.out HQ.out HH.out).mono ?_; rintro e w1 ⟨rfl, rfl⟩) | (go_at_call 47; refine (check_num _ _ _ HL.out HN.out).mono ?_; rintro e w1 ⟨rfl, rfl⟩))
  all_goals
    go_wp2
    go_ret2
    exact ⟨_, rfl, by simp, by go_grown⟩

theorem part_any (p q n : Nat) (w : World) (hp : Fl.isNum p) (hq : Fl.isNum q) (h : Fl.hyp p q = some n) (hn : Fl.numB n = true) (hl : n < 2 ^ 64) : Calls Try.prog 34 #[.float .f64 p, .float .f64 q] w (PartRes (some n) w) := by
  have HP := Lib.hid hp
  have HQ := Lib.hid hq
  have HH := Lib.hid h
  have HN := Lib.hid hn
  have HL := Lib.hid hl
  clear hp hq h hn hl
  go_enter Try.func34, Try.ntmps34
  go_wp2_with fail
  refine (make_any _).mono ?_
  rintro e w1 ⟨rfl, rfl⟩
  go_wp2_with fail
  refine (num_any _ _).mono ?_
  rintro e w1 ⟨rfl, rfl⟩
  go_wp2_with fail
  refine (num_any _ _).mono ?_
  rintro e w1 ⟨rfl, rfl⟩
  go_wp2_with fail
  refine (lift_any _ _ _ _ p q n _ HP.out HQ.out HH.out HN.out HL.out (by go_simp) (by go_simp) (by go_simp)).mono ?_
  rintro e w1 ⟨b, rfl, hc, hb⟩
  have HC := Lib.hid hc
  clear hc
  go_wp2_with fail
  refine (numOf_ok _ _ _ HC.out).mono ?_
  rintro e w2 ⟨rfl, rfl⟩
  go_wp2
  go_ret2
  exact ⟨rfl, Below.trans (by go_grown) (hb.mono (by simp; omega))⟩

theorem door_any (p q n : Nat) (w : World) (hp : Fl.isNum p) (hq : Fl.isNum q) (h : Fl.hyp p q = some n) (hn : Fl.numB n = true) (hl : n < 2 ^ 64) : Calls Try.prog 21 #[.float .f64 p, .float .f64 q] w (DoorTold (some n) w) := by
  have HH := Lib.hid (part_any p q n w hp hq h hn hl)
  clear hp hq h hn hl
  go_enter Try.func21, Try.ntmps21
  go_wp2_with fail
  refine HH.out.mono ?_
  rintro e w1 ⟨rfl, hb⟩
  go_wp2_with fail
  refine (number_ok _ _).mono ?_
  rintro e w2 ⟨rfl, rfl⟩
  go_wp2
  go_ret2
  exact ⟨rfl, hb⟩
end Go.Proofs.Ytikddahaghmklaa.fnHypotTriples
