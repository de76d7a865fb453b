/-
  The walk of FnFodderIndents.
-/
import Derived.Test.YthdlekfnmabldaaIndSpec
import Derived.Test.YthdlekfnmabldaaFodderOpen
namespace Go.Proofs.Ythdlekfnmabldaa.fnFodderIndents
open Go.RowKit
set_option linter.unusedSimpArgs false
set_option linter.unusedVariables false

theorem walk (a0 : Option Addr) (len0 cap0 : Nat) (E : Nat → El) (a1 a2 : Int) (w : World) (w0 : ElsIn w a0 len0 cap0 E ∧ ∀ i, i < len0 → ∀ j, j < (E i).cl → ((E i).S j).size ≤ maxLen) (w1 : (Lit.int .i64 a1).wf = true) (w2 : (Lit.int .i64 a2).wf = true) :
    Calls Try.prog 4 #[.slice a0 len0 cap0, .int .i64 a1, .int .i64 a2] w fun e w' => e = .returned (.bool true) ∧ Below w.heap.size w w' := by
  have H := Lib.hid w0.1
  have HZ := Lib.hid w0.2
  clear w0 w1 w2
  go_enter Try.func4, Try.ntmps4
  go_wp2_with fail
  refine (fits7_any a0 len0 cap0 E _ H.out).mono ?_
  rintro e w1 ⟨⟨r, rfl, -⟩, hb⟩
  cases r
  · go_wp2
    go_ret
    exact ⟨rfl, hb⟩
  have H1 := Lib.hid (H.out.below hb)
  go_wp2_with fail
  refine (plain_any a0 len0 cap0 E _ H1.out HZ.out).mono ?_
  rintro e w2 ⟨⟨r, rfl, hr⟩, hb1⟩
  have hb2 := below_step (Nat.le_refl _) hb hb1
  cases r
  · clear hr
    go_wp2
    go_ret
    exact ⟨rfl, hb2⟩
  obtain ⟨hl, hok⟩ := hr rfl
  have H2 := Lib.hid (H1.out.below hb1)
  have HO := Lib.hid hok
  clear hr hok
  by_cases g1 : a1 < 0
  · go_wp2
    go_ret
    exact ⟨rfl, hb2⟩
  by_cases g2 : 1000 < a1
  · go_wp2
    go_ret
    exact ⟨rfl, hb2⟩
  by_cases g3 : a2 < 0
  · go_wp2
    go_ret
    exact ⟨rfl, hb2⟩
  by_cases g4 : 1000 < a2
  · go_wp2
    go_ret
    exact ⟨rfl, hb2⟩
  go_wp2_with fail
  refine (implIndents_any a0 len0 cap0 E _ H2.out hl HO.out a1 a2).mono ?_
  rintro e w3 ⟨c', cap', E', rfl, hE, hS, hb3⟩
  have H3 := Lib.hid (H2.out.below hb3)
  have HE := Lib.hid hE
  have HS := Lib.hid hS
  have hb4 := below_step (Nat.le_refl _) hb2 hb3
  clear hE hS hb hb1 hb2 hb3
  go_wp2_with fail
  refine (specIndents_any a0 len0 cap0 E _ H3.out hl a1 a2).mono ?_
  rintro e w4 ⟨c2, cap2, E2, rfl, hE2, hS2, hb5⟩
  have HE' := Lib.hid (HE.out.below hb5)
  have HE2 := Lib.hid hE2
  have HSM : Hid (∀ j, j < len0 → SameEl (E' j) (E2 j)) := Lib.hid (fun j hj => same_trans (same_symm (HS.out j hj)) (hS2 j hj))
  have hb6 := below_step (Nat.le_refl _) hb4 hb5
  clear hE2 hS2 hb4 hb5
  go_wp2_with fail
  refine (sameFodder_any c' c2 len0 cap' cap2 E' E2 _ HE'.out HE2.out hl HSM.out).mono ?_
  rintro e w5 ⟨rfl, hb7⟩
  have hb8 := below_step (Nat.le_refl _) hb6 hb7
  clear hb6 hb7
  go_wp2
  go_ret
  exact ⟨rfl, hb8⟩
end Go.Proofs.Ythdlekfnmabldaa.fnFodderIndents
