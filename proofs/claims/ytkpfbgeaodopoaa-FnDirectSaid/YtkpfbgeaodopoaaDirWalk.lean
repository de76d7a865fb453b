/-
  FnDirect: spec.Right, laws.thin, the law itself, and lists of nodes that came in.
-/
import Derived.Test.YtkpfbgeaodopoaaDirShapeC
import Derived.Test.YtkpfbgeaodopoaaDirLight
import Derived.Test.YtkpfbgeaodopoaaDirDirect
import Derived.Deep.Slices
import Derived.Deep.Strs
import Derived.Deep.Fields
import Derived.Deep.Grids
import Derived.ChangeSame
namespace Go.Proofs.Ytkpfbgeaodopoaa.fnDirect
open Go.RowKit
set_option linter.unusedSimpArgs false
set_option linter.unusedVariables false

set_option maxRecDepth 100000 in
theorem right_zero (ao : Option Addr) (cap : Nat) (w : World) :
    Calls Try.prog 10 #[.slice ao 0 cap] w fun e w' => e = .returned (.bool false) ∧ w' = w := by
  go_enter Try.func10, Try.ntmps10
  go_wp2
  go_ret
  exact ⟨rfl, rfl⟩

set_option maxRecDepth 100000 in
set_option maxHeartbeats 1600000 in
theorem right_yes (a : Addr) (n cap : Nat) (E : Nat → Nd) (h0 : 0 < n) (hn : n ≤ 400) (hz : ∀ i, i < n → (E i).text.size ≤ 4000) (w : World) (ht : Lies w a n E) :
    Calls Try.prog 10 #[.slice (some a) n cap] w fun e w' => Yes (Tree E n) e ∧ Below w.heap.size w w' := by
  have HT := Lib.hid ht
  have HZ := Lib.hid hz
  obtain ⟨-, -, -, -, p4⟩ := ht 0 h0
  rw [Nat.zero_mul, Addr.add_zero'] at p4
  have h0' : (0 : Int) < n := by omega
  have h0'' : ¬ (n : Int) = 0 := by omega
  have h0d : ((n : Int) == 0) = false := by simpa using h0''
  clear ht hz
  by_cases hs : (E 0).size = n
  · rw [hs] at p4
    have HS := Lib.hid hs
    clear hs
    obtain ⟨b0, hb0⟩ : ∃ b, decide (ex (E 0)) = b := ⟨_, rfl⟩
    have HB0 := Lib.hid hb0
    have HSZ := Lib.hid (sized_yes a n cap E hn n 0 n w h0 (Nat.le_refl _) (by omega) HT.out)
    clear hb0
    go_enter Try.func10, Try.ntmps10
    go_wp2_with (first
      | (go_at_call 14; refine HSZ.out.mono ?_; rintro e w1 ⟨⟨r, rfl, hr⟩, rfl⟩; have HR := Lib.hid hr; clear hr; cases r)
      | (go_at_call 15; refine (expr_any a n cap E hn 0 _ h0 HT.out).mono ?_; rintro e w1 ⟨rfl, rfl⟩; rw [HB0.out]; cases b0))
    · go_ret
      exact ⟨⟨_, rfl, fun h => by cases h⟩, Below.refl _ _⟩
    · go_ret
      exact ⟨⟨_, rfl, fun h => by cases h⟩, Below.refl _ _⟩
    have hfit : Fit E n := by
      obtain ⟨-, h2, h3⟩ := HR.out (by first | rfl | trivial)
      have hsz : sz E 0 = n := by have := HS.out; unfold sz; omega
      refine ⟨h0, HS.out, fun i hi => h3 i (Nat.zero_le _) (by rw [hsz]; omega)⟩
    have HF := Lib.hid hfit
    clear hfit
    go_loopw [3] (fun v wr => ∃ i : Nat, v = .int .i64 i ∧ i ≤ n ∧ Below w1.heap.size w1 wr ∧ Hid (∀ m, m < i → Shape E (E m) (kids E m))) (fun v _ => n - (intOf v).toNat)
    case atStart => exact ⟨0, rfl, Nat.zero_le _, Below.refl _ _, Lib.hid (fun m hm => absurd hm (by omega))⟩
    case round =>
      obtain ⟨i, rfl, hi, hbel, HI⟩ := hrel
      by_cases hlt : i < n
      · have HTr := Lib.hid (HT.out.below hbel)
        obtain ⟨q0, q1, q2, q3, q4⟩ := HTr.out i hlt
        have hlt' : (i : Int) < n := by omega
        go_wp2_with (first
          | (go_at_call 16; refine (bare_yes _ _ _ _ _ (HZ.out i hlt) _).mono ?_; rintro e w2 ⟨⟨r, rfl, hr⟩, hb2⟩; have hbw : Below w1.heap.size w1 w2 := below_step (Nat.le_refl _) hbel hb2; have HBO := Lib.hid hr; clear hr; cases r)
          | (go_at_call 17; refine (sshaped_yes a n cap E hn i _ hlt HF.out (HT.out.below hbw) (HBO.out (by first | rfl | trivial))).mono ?_; rintro e w3 ⟨⟨r, rfl, hr⟩, hb3⟩; have hbw3 : Below w1.heap.size w1 w3 := below_step (Nat.le_refl _) hbw hb3; have HSO := Lib.hid hr; clear hr; cases r))
        · go_ret
          exact ⟨⟨_, rfl, fun h => by cases h⟩, hbw⟩
        · go_ret
          exact ⟨⟨_, rfl, fun h => by cases h⟩, hbw3⟩
        · go_roundw
          case rel =>
            refine ⟨i + 1, by go_num, by omega, hbw3, Lib.hid (fun m hm => ?_)⟩
            by_cases hmi : m < i
            · exact HI.out m hmi
            · obtain rfl : m = i := by omega
              exact HSO.out (by first | rfl | trivial)
          case measure => first | (simp [intOf]; done) | (simp [intOf]; omega)
      · obtain rfl : i = n := by omega
        go_wp2
        go_ret
        exact ⟨⟨_, rfl, fun _ => ⟨HF.out, of_decide_eq_true HB0.out, HI.out⟩⟩, hbel⟩
  · obtain ⟨s, hse⟩ : ∃ s, (E 0).size = s := ⟨_, rfl⟩
    rw [hse] at p4 hs
    have d1 : (s == (n : Int)) = false := by simpa using hs
    clear hse
    go_enter Try.func10, Try.ntmps10
    go_wp2
    go_ret
    exact ⟨⟨_, rfl, fun h => by cases h⟩, Below.refl _ _⟩

set_option maxRecDepth 100000 in
theorem thin_zero (ao : Option Addr) (cap : Nat) (w : World) :
    Calls Try.prog 5 #[.slice ao 0 cap] w fun e w' => e = .returned (.bool false) ∧ w' = w := by
  go_enter Try.func5, Try.ntmps5
  go_wp2
  go_loop [3, 4] (fun u v => u = .int .i64 0 ∧ v = .int .i64 0) (fun _ _ => 0)
  case atStart => exact ⟨rfl, rfl⟩
  case round =>
    obtain ⟨rfl, rfl⟩ := hrel
    go_wp2_with (go_at_call 10; refine (right_zero ao cap _).mono ?_; rintro e w1 ⟨rfl, rfl⟩)
    go_ret
    exact ⟨rfl, rfl⟩

set_option maxRecDepth 100000 in
set_option maxHeartbeats 1600000 in
theorem thin_yes (a : Addr) (n cap : Nat) (E : Nat → Nd) (h0 : 0 < n) (w : World) (ht : Lies w a n E) :
    Calls Try.prog 5 #[.slice (some a) n cap] w fun e w' => Yes (n ≤ 400 ∧ Tree E n) e ∧ Below w.heap.size w w' := by
  have HT := Lib.hid ht
  clear ht
  by_cases hbig : (n : Int) > 400
  · go_enter Try.func5, Try.ntmps5
    go_wp2
    go_ret
    exact ⟨⟨_, rfl, fun h => by cases h⟩, Below.refl _ _⟩
  have hn : n ≤ 400 := by omega
  go_enter Try.func5, Try.ntmps5
  go_wp2
  go_loop [3, 4] (fun u v => ∃ (b : Int) (i : Nat), u = .int .i64 b ∧ v = .int .i64 i ∧ i ≤ n ∧ 0 ≤ b ∧ b ≤ 4000 ∧ Hid (∀ m, m < i → (E m).text.size ≤ 4000)) (fun _ v => n - (intOf v).toNat)
  case atStart => exact ⟨0, 0, rfl, rfl, Nat.zero_le _, by omega, by omega, Lib.hid (fun m hm => absurd hm (by omega))⟩
  case round =>
    obtain ⟨b, i, rfl, rfl, hi, hb0, hb1, HZ⟩ := hrel
    by_cases hlt : i < n
    · obtain ⟨-, -, q2, -, -⟩ := HT.out i hlt
      have hlt' : (i : Int) < n := by omega
      obtain ⟨s, hs⟩ : ∃ s : Nat, (E i).text.size = s := ⟨_, rfl⟩
      by_cases h4 : (s : Int) ≤ 4000
      · by_cases h5 : b + s ≤ 4000
        · have h5' : ¬ b + s > 4000 := by omega
          have h6 : ¬ (4001 : Int) < s := by omega
          have h7 : (s : Int) < 4001 := by omega
          have h8 : (s : Int) ≤ 4001 := by omega
          go_wp2
          go_round
          case rel =>
            refine ⟨b + s, i + 1, by go_num, by go_num, by omega, by omega, by omega, Lib.hid (fun m hm => ?_)⟩
            by_cases hmi : m < i
            · exact HZ.out m hmi
            · obtain rfl : m = i := by omega
              omega
          case measure => first | (simp [intOf]; done) | (simp [intOf]; omega)
        · have h5' : b + s > 4000 := by omega
          have h6 : ¬ (4001 : Int) < s := by omega
          have h7 : (s : Int) < 4001 := by omega
          have h8 : (s : Int) ≤ 4001 := by omega
          go_wp2
          go_ret
          exact ⟨⟨_, rfl, fun h => by cases h⟩, Below.refl _ _⟩
      · have h5' : b + 4001 > 4000 := by omega
        have h7 : ¬ (s : Int) < 4001 := by omega
        go_wp2
        all_goals
          go_ret
          exact ⟨⟨_, rfl, fun h => by cases h⟩, Below.refl _ _⟩
    · obtain rfl : i = n := by omega
      have HRI := Lib.hid (right_yes a i cap E h0 hn HZ.out w HT.out)
      go_wp2_with (first
        | (go_at_call 10; refine HRI.out.mono ?_; rintro e w1 ⟨⟨r, rfl, hr⟩, hb1⟩; have HR := Lib.hid hr; clear hr; cases r)
        | (go_at_call 11; refine (light_any a i cap E hn (HR.out (by first | rfl | trivial)).1 _ (HT.out.below hb1)).mono ?_; rintro e w2 ⟨⟨r2, rfl, -⟩, hb2⟩; have hbw := below_step (Nat.le_refl _) hb1 hb2))
      all_goals
        go_ret
        exact ⟨⟨_, rfl, fun h => by first | (cases h; done) | exact ⟨hn, HR.out (by first | rfl | trivial)⟩⟩, by first | exact hbw | exact hb1⟩

theorem fits1_zero (ao : Option Addr) (cap : Nat) (w : World) :
    Calls Try.prog 4 #[.slice ao 0 cap] w fun e w' => e = .returned (.bool true) ∧ w' = w := by
  go_enter Try.func4, Try.ntmps4
  go_wp2
  go_loop [10] (fun v => v = .int .i64 0) (fun _ => 0)
  case atStart => rfl
  case round =>
    obtain rfl := hrel
    go_wp2
    go_ret
    exact ⟨rfl, rfl⟩

theorem dirOf_nodup {E : Nat → Nd} {n i : Nat} (hT : Tree E n) (hi : i < n) : (DirOf E i).Nodup ∧ (DirOf E i).length ≤ n := by
  have h1 := (hT.1.2.2 i hi).kin.nodup
  have h2 := kids_len hT.1 hi
  unfold DirOf
  split
  · exact ⟨h1, h2⟩
  · split
    · exact ⟨h1.sublist (List.take_sublist _ _), by rw [List.length_take]; omega⟩
    · exact ⟨List.nodup_nil, Nat.zero_le _⟩

theorem NumsIn.len0 {w : World} {v : Value} (h : NumsIn w v []) : ∃ ao cap, v = .slice ao 0 cap := by
  obtain ⟨ao, cap, h1, -⟩ := h.form
  exact ⟨ao, cap, h1⟩

set_option maxRecDepth 100000 in
set_option maxHeartbeats 3200000 in
theorem walk_some (a : Addr) (n cap : Nat) (E : Nat → Nd) (a1 : Int) (w : World) (h0 : 0 < n) (hc : cap ≤ maxLen) (ht : Lies w a n E) (b0 : 0 ≤ a1) (b1 : a1 ≤ 65535) :
    Calls Try.prog 3 #[.slice (some a) n cap, .int .u16 a1] w fun e w' => e = .returned (.bool true) ∧ Below w.heap.size w w' := by
  have HT := Lib.hid ht
  clear ht
  have h0' : ¬ (n : Int) = 0 := by omega
  have h0d : ((n : Int) == 0) = false := by simpa using h0'
  have hw1 : wrap64 a1 = a1 := by go_arith
  obtain ⟨i, hi0⟩ : ∃ i : Nat, (i : Int) = a1.tmod n := ⟨(a1.tmod n).toNat, by have := Int.tmod_nonneg (n : Int) b0; omega⟩
  have hi : i < n := by
    have := Int.tmod_lt_of_pos a1 (show (0 : Int) < n by omega)
    omega
  have hi0' := hi0.symm
  have hi' : (i : Int) < n := by omega
  clear hi0
  have hcs : (E i).kind ∈ [(22 : Int), 23, 15, 24] ∨ (E i).kind = 18 ∨ (E i).kind ∈ [(11 : Int), 8, 1, 2, 3, 4, 5, 6, 7] ∨ (E i).kind ∉ [(22 : Int), 23, 15, 24, 18, 11, 8, 1, 2, 3, 4, 5, 6, 7] := by
    simp only [List.mem_cons, List.not_mem_nil, or_false]
    omega
  have HFI := Lib.hid (fits1_any a n cap E w HT.out)
  go_enter Try.func3, Try.ntmps3
  go_upto_region 7 with (first
    | (go_at_call 4; refine HFI.out.mono ?_; rintro e w1 ⟨⟨r, rfl, -⟩, hb1⟩; cases r)
    | (go_at_call 5; refine (thin_yes a n cap E h0 _ (HT.out.below hb1)).mono ?_; rintro e w2 ⟨⟨r, rfl, hr⟩, hb2⟩; have hbw2 : Below w.heap.size w w2 := below_step (Nat.le_refl _) hb1 hb2; have HR := Lib.hid hr; clear hr; cases r)
    | (go_at_call 6; refine (skids_any a n cap E (HR.out (by first | rfl | trivial)).1 i _ (HR.out (by first | rfl | trivial)).2.1 hi (HT.out.below hbw2)).mono ?_; rintro e w3 ⟨v, rfl, hv, hb3⟩; have hbw3 : Below w.heap.size w w3 := below_step (Nat.le_refl _) hbw2 hb3; have HIK := Lib.hid (NumsIn.of_own hv); clear hv))
  · go_ret
    exact ⟨rfl, hb1⟩
  · go_ret
    exact ⟨rfl, hbw2⟩
  obtain ⟨hn, hTree⟩ := HR.out (by first | rfl | trivial)
  have HTree := Lib.hid hTree
  have HDN := Lib.hid (dirOf_nodup hTree hi)
  clear hTree
  have HT3 := Lib.hid (HT.out.below hbw3)
  obtain ⟨q0, -⟩ := HT3.out i hi
  rcases hcs with hk | hk | hk | hk
  · have HD := Lib.hid (direct_any a n cap E i w3 HTree.out hn hc HT3.out hi (by simp only [List.mem_cons, List.not_mem_nil, or_false] at hk ⊢; omega))
    have he : Hid (DirOf E i = kids E i) := Lib.hid (by unfold DirOf; rw [if_pos hk])
    have arm : ∀ v4 w4 (h : NumsIn w4 v4 (DirOf E i)) (hb : Below w3.heap.size w3 w4), Calls Try.prog 7 #[v4, v] w4 fun e w' => e = .returned (.bool true) ∧ Below w4.heap.size w4 w' := fun v4 w4 h hb =>
      same_any (kids E i) v4 v w4 (by rw [← he.out]; exact HDN.out.1) (by have := HDN.out.2; rw [he.out] at this; omega) (by rw [← he.out]; exact h) (HIK.out.below hb)
    have HA := Lib.hid arm
    clear arm
    simp only [List.mem_cons, List.not_mem_nil, or_false] at hk
    rcases hk with hk | hk | hk | hk
    all_goals
      rw [hk] at q0
      clear hk
      go_wp2_with (first
        | (go_at_call 8; refine HD.out.mono ?_; rintro e w4 ⟨v4, rfl, hI4, hb4⟩; have HI4 := Lib.hid hI4; clear hI4)
        | (go_at_call 7; refine (HA.out v4 w4 HI4.out hb4).mono ?_; rintro e w5 ⟨rfl, hb5⟩))
      go_ret
      exact ⟨rfl, below_step (Nat.le_refl _) hbw3 (below_step (Nat.le_refl _) hb4 hb5)⟩
  · have HKM : Hid ((E i).kind ∈ [(22 : Int), 23, 15, 24, 18, 11, 8, 1, 2, 3, 4, 5, 6, 7]) := Lib.hid (by rw [hk]; decide)
    have hS := HTree.out.2.2 i hi
    have hl : ∃ x l, kids E i = x :: l := by
      cases hS with
      | apply x l' _ hl => exact ⟨x, l', hl⟩
      | _ => simp_all <;> omega
    obtain ⟨x, l, hl⟩ := hl
    have he : Hid (DirOf E i = [x]) := Lib.hid (by unfold DirOf; rw [hk, if_neg (by decide), if_pos rfl, hl]; rfl)
    have hI0 := HIK.out
    rw [hl] at hI0
    obtain ⟨g, o, cp, rfl, hc1, hc2, hcx, -⟩ := hI0.cons
    have hI2 : NumsIn w3 (.slice (some ⟨g, o, none⟩) [x].length cp) [x] := NumsIn.left (l := [x]) (l' := l) (n := l.length + 1) hI0
    have hI1 : NumsIn w3 (.slice (some ⟨g, o, none⟩) 1 cp) [x] := hI2
    have HI1 := Lib.hid hI1
    clear hI1 hI2 hI0 hcx
    rw [hk] at q0
    clear hk hl hS
    have hcp : (1 : Int) ≤ cp := by omega
    go_wp2_with fail
    go_region_with (first
        | (go_at_call 8; refine (direct_any a n cap E i _ HTree.out hn hc (HT3.out.below (by go_grown)) hi HKM.out).mono ?_; rintro e w4 ⟨v4, rfl, hI4, hb4⟩; have hb34 : Below w3.heap.size w3 w4 := below_step (Nat.le_refl _) (by go_grown) hb4; have HI4 := Lib.hid hI4; clear hI4)
        | (go_at_call 7; refine (same_any [x] _ _ _ (by simp) (by simp) (by rw [← he.out]; exact HI4.out) (HI1.out.below hb34)).mono ?_; rintro e w5 ⟨rfl, hb5⟩))
    all_goals
      go_wp2
      go_ret
      exact ⟨rfl, below_step (Nat.le_refl _) hbw3 (below_step (Nat.le_refl _) hb34 hb5)⟩
  · have HD := Lib.hid (direct_any a n cap E i w3 HTree.out hn hc HT3.out hi (by simp only [List.mem_cons, List.not_mem_nil, or_false] at hk ⊢; omega))
    have he : Hid (DirOf E i = []) := Lib.hid (by
      unfold DirOf
      simp only [List.mem_cons, List.not_mem_nil, or_false] at hk
      rw [if_neg (by simp; omega), if_neg (by omega)])
    simp only [List.mem_cons, List.not_mem_nil, or_false] at hk
    rcases hk with hk | hk | hk | hk | hk | hk | hk | hk | hk
    all_goals
      rw [hk] at q0
      clear hk
      go_wp2_with (go_at_call 8; refine HD.out.mono ?_; rintro e w4 ⟨v4, rfl, hI4, hb4⟩; rw [he.out] at hI4; obtain ⟨a4, c4, rfl⟩ := hI4.len0; clear hI4)
      go_ret
      exact ⟨rfl, below_step (Nat.le_refl _) hbw3 hb4⟩
  · obtain ⟨ke, hke⟩ : ∃ ke, (E i).kind = ke := ⟨_, rfl⟩
    rw [hke] at q0 hk
    simp only [List.mem_cons, List.not_mem_nil, or_false, not_or] at hk
    obtain ⟨k22, k23, k15, k24, k18, k11, k8, k1, k2, k3, k4, k5, k6, k7⟩ := hk
    have d22 : (ke == 22) = false := by simpa using k22
    have d23 : (ke == 23) = false := by simpa using k23
    have d15 : (ke == 15) = false := by simpa using k15
    have d24 : (ke == 24) = false := by simpa using k24
    have d18 : (ke == 18) = false := by simpa using k18
    have d11 : (ke == 11) = false := by simpa using k11
    have d8 : (ke == 8) = false := by simpa using k8
    have d1 : (ke == 1) = false := by simpa using k1
    have d2 : (ke == 2) = false := by simpa using k2
    have d3 : (ke == 3) = false := by simpa using k3
    have d4 : (ke == 4) = false := by simpa using k4
    have d5 : (ke == 5) = false := by simpa using k5
    have d6 : (ke == 6) = false := by simpa using k6
    have d7 : (ke == 7) = false := by simpa using k7
    clear hke
    go_wp2
    go_ret
    exact ⟨rfl, hbw3⟩

theorem walk (a0 : Option Addr) (len0 cap0 : Nat) (E : Nat → Nd) (a1 : Int) (w : World) (w0 : NdsIn w a0 len0 cap0 E) (w1 : (Lit.int .u16 a1).wf = true) :
    Calls Try.prog 3 #[.slice a0 len0 cap0, .int .u16 a1] w fun e w' => e = .returned (.bool true) ∧ Below w.heap.size w w' := by
  obtain ⟨b0, b1⟩ := bounds_u16 w1
  by_cases h0 : len0 = 0
  · subst h0
    clear w0
    go_enter Try.func3, Try.ntmps3
    go_wp2_with (first
      | (go_at_call 4; refine (fits1_zero _ _ _).mono ?_; rintro e w1 ⟨rfl, rfl⟩)
      | (go_at_call 5; refine (thin_zero _ _ _).mono ?_; rintro e w2 ⟨rfl, rfl⟩))
    go_ret
    exact ⟨rfl, Below.refl _ _⟩
  · rcases w0 with ⟨-, h, -⟩ | ⟨a, rfl, h1, h2, h3⟩
    · exact absurd h h0
    · exact walk_some a len0 cap0 E a1 w (by omega) h2 h3 b0 (by omega)
open Go.ChangeShapes Go.WideShapes Go.Deep

section
variable {H : Type} {enc : TypeId × Value → H} {P : Program} {w : World} {base : Nat} {spare : Nat → Bool} {held : Bool}
theorem open_slice_fields {t e : TypeId} {fs : Array Field} {fuel : Nat} {cs : List Value} {x : DataW H × List MemPlace} (ht : P.underlying t = some (.slice e)) (he : P.underlying e = some (.struct fs))
    (hone : oneCellFields P fs = true) (hC : P.cellsOf e = fs.size) (h : DataW.trod enc P w base spare held fuel t cs = some x) :
    (cs = [.slice none 0 0] ∧ x = (.nil, [])) ∨
    ∃ (a : Addr) (len cap m : Nat) (D : Nat → DataW H) (Pl : Nat → List MemPlace), cs = [.slice (some a) len cap] ∧ base ≤ a.block ∧ len ≤ cap ∧ cap ≤ maxLen ∧ m = (if spare a.block then cap else len) ∧
      x = (.slice ((List.range len).map D) ((List.range (m - len)).map fun j => D (len + j)), MemPlace.row a (m * fs.size) ++ (List.range m).flatMap Pl) ∧
      ∀ i, i < m → ∃ (ys : List (DataW H × List MemPlace)) (n : Nat), D i = .agg (ys.map (·.1)) ∧ Pl i = ys.flatMap (·.2) ∧ ys.length = fs.size ∧
        ∀ (j : Nat) (f : Field), fs[j]? = some f → ∃ (v : Value) (y : DataW H × List MemPlace), w.cell? (a.add (i * fs.size + j)) = some v ∧ ys[j]? = some y ∧ DataW.trod enc P w base spare held n f.type [v] = some y := by
  rcases open_slice ht h with h0 | ⟨a, len, cap, m, n, D, Pl, hcs, hb, hl, hm, hmm, hx, hi⟩
  · exact .inl h0
  · refine .inr ⟨a, len, cap, m, D, Pl, hcs, hb, hl, hm, hmm, by rw [hC] at hx; exact hx, fun i him => ?_⟩
    obtain ⟨cs', hc, ht'⟩ := hi i him
    rw [hC] at hc
    obtain ⟨ys, n', hn', hy, hlen, hyl, hf⟩ := DataW.trod_struct he ht'
    obtain ⟨_, hcl, hat⟩ := World.cells?_some hc
    simp only [Prod.mk.injEq] at hy
    refine ⟨ys, n', hy.1, hy.2, hyl, fun j f hj => ?_⟩
    obtain ⟨ho, hk⟩ := hone_of hone j f hj
    have hjl : j < fs.size := (Array.getElem?_eq_some_iff.1 hj).1
    have hcell := hat j hjl
    have hv : cs'[j]? = some (cs'[j]'(by omega)) := List.getElem?_eq_getElem (by omega)
    have h1 := hf j f hj
    rw [ho, hk] at h1
    have hone' : (cs'.drop j).take 1 = [cs'[j]'(by omega)] := by
      rw [List.drop_eq_getElem_cons (by omega)]
      rfl
    rw [hone'] at h1
    have hys : ys[j]? = some (ys[j]'(by omega)) := List.getElem?_eq_getElem (by omega)
    refine ⟨_, _, ?_, hys, h1.trans hys⟩
    rw [← Go.Deep.add_add, hcell, hv]
end

section
variable {H : Type} {enc : TypeId × Value → H} {W : World} {base : Nat} {spare : Nat → Bool} {held : Bool}

theorem add_form (x : Addr) (j : Nat) (hj : 0 < j) : x.add j = ⟨x.block, x.off + j, none⟩ := by
  unfold Addr.add
  rw [if_neg (by omega)]

theorem Nodes_open {c : Option Addr} {len cap : Nat} {d : DataW H} {p : List MemPlace} (h : DataW.Trod enc Try.prog W base spare held 22 (.slice c len cap) d p) : ∃ E : Nat → Nd, NdsIn W c len cap E := by
  obtain ⟨fuel, hf⟩ := h
  rcases open_slice_fields Try.underlying22 Try.underlying28 (by kernel_rfl) (by kernel_rfl) hf with ⟨h1, -⟩ | ⟨a, len', cap', m, D, Pl, h1, h2, h3, h4, h5, -, h6⟩
  · simp [Value.cells] at h1
    obtain ⟨rfl, rfl, rfl⟩ := h1
    exact ⟨fun _ => ⟨0, 0, ⟨#[]⟩, 0, 0⟩, .inl ⟨rfl, rfl, rfl⟩⟩
  · simp [Value.cells] at h1
    obtain ⟨rfl, rfl, rfl⟩ := h1
    have hlm : len ≤ m := by rw [h5]; split <;> omega
    have each : ∀ i, i < m → ∃ e : Nd, NdIn W (a.add (i * 5)) e := fun i hi => by
      obtain ⟨ys, n, -, -, -, hfld⟩ := h6 i hi
      obtain ⟨v0, y0, hc0, -, ht0⟩ := hfld 0 _ rfl
      obtain ⟨v1, y1, hc1, -, ht1⟩ := hfld 1 _ rfl
      obtain ⟨v2, y2, hc2, -, ht2⟩ := hfld 2 _ rfl
      obtain ⟨v3, y3, hc3, -, ht3⟩ := hfld 3 _ rfl
      obtain ⟨v4, y4, hc4, -, ht4⟩ := hfld 4 _ rfl
      obtain ⟨k, e0, -, -⟩ := DataW.trod_int Try.underlying3 ht0
      obtain ⟨o, e1, -, -⟩ := DataW.trod_int Try.underlying3 ht1
      obtain ⟨s, e2, -⟩ := DataW.trod_string Try.underlying9 ht2
      obtain ⟨f, e3, -, -⟩ := DataW.trod_int Try.underlying3 ht3
      obtain ⟨z, e4, -, -⟩ := DataW.trod_int Try.underlying3 ht4
      simp at e0 e1 e2 e3 e4
      subst e0 e1 e2 e3 e4
      refine ⟨⟨k, o, s, f, z⟩, ?_, ?_, ?_, ?_, ?_⟩
      · simpa using hc0
      · rw [← add_form (a.add (i * 5)) 1 (by omega), Go.Deep.add_add]; exact hc1
      · rw [← add_form (a.add (i * 5)) 2 (by omega), Go.Deep.add_add]; exact hc2
      · rw [← add_form (a.add (i * 5)) 3 (by omega), Go.Deep.add_add]; exact hc3
      · rw [← add_form (a.add (i * 5)) 4 (by omega), Go.Deep.add_add]; exact hc4
    refine ⟨fun i => if hi : i < m then (each i hi).choose else ⟨0, 0, ⟨#[]⟩, 0, 0⟩, .inr ⟨a, rfl, h3, h4, fun i hi => ?_⟩⟩
    have him : i < m := by omega
    simp only [dif_pos him]
    exact (each i him).choose_spec
end
end Go.Proofs.Ytkpfbgeaodopoaa.fnDirect
