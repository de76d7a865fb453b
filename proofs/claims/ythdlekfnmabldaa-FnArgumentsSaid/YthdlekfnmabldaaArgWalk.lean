/-
  FnArguments: the law's walk.
-/
import Derived.Test.YthdlekfnmabldaaArgCheck
namespace Go.Proofs.Ythdlekfnmabldaa.fnArguments
open Go.RowKit
set_option linter.unusedSimpArgs false
set_option linter.unusedVariables false

set_option maxRecDepth 100000 in
theorem part_any (cp : Option Addr) (n capp : Nat) (P : Nat → ByteArray) (co : Option Addr) (capo : Nat) (O : Nat → Bool) (p : Nat) (cn : Option Addr) (m capn : Nat) (N : Nat → ByteArray) (w : World) (hP : StrsIn w cp n capp P) (hO : BoolsIn w co n capo O) (hN : StrsIn w cn m capn N) (nP : Names n P) (nN : Names m N) (hp2 : p ≤ 200) :
    Calls Try.prog 27 #[.slice cp n capp, .slice co n capo, .int .i64 p, .slice cn m capn] w fun e w' => ((CallP n p P m N O ∧ e = .returned .nilIface) ∨ (¬ CallP n p P m N O ∧ ∃ v, e = .returned (.iface 126 v))) ∧ Below w.heap.size w w' := by
  have HP := Lib.hid hP
  have HO := Lib.hid hO
  have HN := Lib.hid hN
  have HNP := Lib.hid nP
  have HNN := Lib.hid nN
  have hn := nP.few
  have hm := nN.few
  clear hP hO hN nP nN
  go_enter Try.func27, Try.ntmps27
  go_wp2_with fail
  have hI : Interp (w.alloc (.cells #[Value.nilIface, Value.map none, Value.map none, Value.pointer none, Value.pointer none, Value.pointer none, Value.pointer none, Value.slice none 0 0, Value.int IntKind.i64 0, Value.int IntKind.i64 0, Value.nilFunc, Value.nilFunc] 88)) w.heap.size := ⟨cell_at rfl rfl, cell_at rfl rfl⟩
  have hb0 : Below w.heap.size w (w.alloc (.cells #[Value.nilIface, Value.map none, Value.map none, Value.pointer none, Value.pointer none, Value.pointer none, Value.pointer none, Value.slice none 0 0, Value.int IntKind.i64 0, Value.int IntKind.i64 0, Value.nilFunc, Value.nilFunc] 88)) := by go_grown
  have HI := Lib.hid hI
  clear hI
  refine (arguments_any p cn m capn N _ (HN.out.below hb0) hm hp2).mono ?_
  rintro e w1 ⟨ao, cq, an, cqn, X, rfl, hown, hX, hb1⟩
  have hb2 := below_step (Nat.le_refl _) hb0 hb1
  have HI1 := Lib.hid (HI.out.below hb1)
  have HOW := Lib.hid hown
  have HX := Lib.hid hX
  clear hown hX HI
  go_wp2_with fail
  refine (params_any cp n capp P co capo O _ (HP.out.below hb2) (HO.out.below hb2) hn).mono ?_
  rintro e w2 ⟨v, D, rfl, hown, hD, hb3⟩
  have hb4 := below_step (Nat.le_refl _) hb2 hb3
  have HI2 := Lib.hid (HI1.out.below hb3)
  obtain ⟨cpar, kpar, rfl, htwo⟩ := two_in hown
  have HTP := Lib.hid htwo
  have HD := Lib.hid hD
  have htn : TwoIn w2 an m cqn X N := by
    obtain ⟨c', k', hv, ht⟩ := two_in (own_below HOW.out hb3)
    simp only [Value.slice.injEq, true_and] at hv
    obtain ⟨rfl, rfl⟩ := hv
    exact ht
  have HTN := Lib.hid htn
  clear hown htwo hD htn HOW HI1 hb0 hb1 hb3
  go_wp2_with fail
  refine (check_any _ ao p cq an m cqn X N cpar n kpar D P O _ HI2.out HTN.out HTP.out HD.out HX.out HNP.out HNN.out hp2).mono ?_
  rintro e w3 ⟨hres, hb5⟩
  have hb6 := below_step (Nat.le_refl _) hb4 hb5
  rcases hres with ⟨h1, rfl⟩ | ⟨h1, v, rfl⟩
  · have H1 := Lib.hid h1
    clear h1
    go_wp2
    go_ret
    exact ⟨.inl ⟨H1.out, rfl⟩, hb6⟩
  · have H1 := Lib.hid h1
    clear h1
    go_wp2
    go_ret
    exact ⟨.inr ⟨H1.out, v, rfl⟩, hb6⟩

open Classical in
theorem impl_any (cp : Option Addr) (n capp : Nat) (P : Nat → ByteArray) (co : Option Addr) (capo : Nat) (O : Nat → Bool) (p : Nat) (cn : Option Addr) (m capn : Nat) (N : Nat → ByteArray) (w : World) (hP : StrsIn w cp n capp P) (hO : BoolsIn w co n capo O) (hN : StrsIn w cn m capn N) (nP : Names n P) (nN : Names m N) (hp2 : p ≤ 200) :
    Calls Try.prog 15 #[.slice cp n capp, .slice co n capo, .int .i64 p, .slice cn m capn] w fun e w' => e = .returned (.bool (decide (CallP n p P m N O))) ∧ Below w.heap.size w w' := by
  have HP := Lib.hid hP
  have HO := Lib.hid hO
  have HN := Lib.hid hN
  have HNP := Lib.hid nP
  have HNN := Lib.hid nN
  have g1 : (0 : Int) ≤ p := by omega
  have g2 : (p : Int) ≤ 1000 := by omega
  clear hP hO hN nP nN
  go_enter Try.func15, Try.ntmps15
  go_wp2_with fail
  refine (part_any cp n capp P co capo O p cn m capn N _ HP.out HO.out HN.out HNP.out HNN.out hp2).mono ?_
  rintro e w1 ⟨hres, hb⟩
  rcases hres with ⟨h1, rfl⟩ | ⟨h1, v, rfl⟩
  · have H1 : Hid (decide (CallP n p P m N O) = true) := Lib.hid (decide_eq_true h1)
    clear h1
    go_wp2
    go_ret
    exact ⟨ret_bool H1.out, hb⟩
  · have H1 : Hid (decide (CallP n p P m N O) = false) := Lib.hid (decide_eq_false h1)
    clear h1
    go_wp2
    go_ret
    exact ⟨ret_bool H1.out, hb⟩

open Classical in
set_option maxRecDepth 100000 in
theorem walk (a0 : Option Addr) (len0 cap0 : Nat) (P : Nat → ByteArray) (a1 : Option Addr) (len1 cap1 : Nat) (O : Nat → Bool) (a2 : Int) (a3 : Option Addr) (len3 cap3 : Nat) (N : Nat → ByteArray) (w : World)
    (w0 : StrsIn w a0 len0 cap0 P) (w1 : BoolsIn w a1 len1 cap1 O) (w2 : (Lit.int .i64 a2).wf = true) (w3 : StrsIn w a3 len3 cap3 N) :
    Calls Try.prog 5 #[.slice a0 len0 cap0, .slice a1 len1 cap1, .int .i64 a2, .slice a3 len3 cap3] w fun e w' => e = .returned (.bool true) ∧ Below w.heap.size w w' := by
  have HP := Lib.hid w0
  have HO := Lib.hid w1
  have HN := Lib.hid w3
  clear w0 w1 w2 w3
  go_enter Try.func5, Try.ntmps5
  go_wp2_with fail
  refine (fits5_any a0 len0 cap0 P _ HP.out).mono ?_
  rintro e w4 ⟨⟨r, rfl, -⟩, rfl⟩
  cases r
  · go_wp2
    go_ret
    exact ⟨rfl, Below.refl _ _⟩
  by_cases hz : (2147483647 : Int) < len1
  · go_wp2
    go_ret
    exact ⟨rfl, Below.refl _ _⟩
  go_wp2_with fail
  refine (fits5_any a3 len3 cap3 N _ HN.out).mono ?_
  rintro e w5 ⟨⟨r, rfl, -⟩, rfl⟩
  cases r
  · go_wp2
    go_ret
    exact ⟨rfl, Below.refl _ _⟩
  go_wp2_with fail
  refine (calls_any a0 len0 cap0 P a2 a3 len3 cap3 N _ HP.out HN.out).mono ?_
  rintro e w6 ⟨⟨r, rfl, hr⟩, hb1⟩
  cases r
  · go_wp2
    go_ret
    exact ⟨rfl, hb1⟩
  obtain ⟨nP, nN, h0, h2⟩ := hr rfl
  clear hr
  by_cases hl : (len1 : Int) = len0
  · obtain rfl : len1 = len0 := by omega
    obtain ⟨p, rfl⟩ : ∃ p : Nat, a2 = p := ⟨a2.toNat, by omega⟩
    have HNP := Lib.hid nP
    have HNN := Lib.hid nN
    have HP1 := Lib.hid (HP.out.below hb1)
    have HO1 := Lib.hid (HO.out.below hb1)
    have HN1 := Lib.hid (HN.out.below hb1)
    clear nP nN hl
    go_wp2_with fail
    refine (impl_any a0 len1 cap0 P a1 cap1 O p a3 len3 cap3 N _ HP1.out HO1.out HN1.out HNP.out HNN.out (by omega)).mono ?_
    rintro e w7 ⟨rfl, hb2⟩
    have hb3 := below_step (Nat.le_refl _) hb1 hb2
    have HP2 := Lib.hid (HP.out.below hb3)
    have HO2 := Lib.hid (HO.out.below hb3)
    have HN2 := Lib.hid (HN.out.below hb3)
    go_wp2_with fail
    refine (callable_any a0 len1 cap0 P a1 cap1 O p a3 len3 cap3 N _ HP2.out HO2.out HN2.out HNP.out HNN.out h0 h2).mono ?_
    rintro e w8 ⟨rfl, hb4⟩
    have hb5 := below_step (Nat.le_refl _) hb3 hb4
    generalize decide (CallP len1 p P len3 N O) = r
    clear hb1 hb2 hb3 hb4
    cases r
    all_goals
      go_wp2
      go_ret
      exact ⟨rfl, hb5⟩
  · clear nP nN
    go_wp2
    go_ret
    exact ⟨rfl, hb1⟩
end Go.Proofs.Ythdlekfnmabldaa.fnArguments
