/-
  FnDirect: the tests of size: they return.
-/
import Derived.Test.YtkpfbgeaodopoaaDirRecD
import Derived.Deep.Cut
import Derived.Deep.CutRange
import Derived.Deep.CutBlock
import Derived.Deep.DeepCutAuto
namespace Go.Proofs.Ytkpfbgeaodopoaa.fnDirect
open Go.RowKit
set_option linter.unusedSimpArgs false
set_option linter.unusedVariables false

/-- A number comes back. -/
def Num (e : Ending) : Prop := ∃ q : Int, e = .returned (.int .i64 q)

theorem kid_in {E : Nat → Nd} {n i k : Nat} (hf : Fit E n) (hi : i < n) (hk : k ∈ kids E i) : k < n ∧ sz E k < sz E i := by
  have h1 := (hf.2.2 i hi).kin.mem hk
  have h2 := (hf.2.2 i hi).2.1
  omega

theorem kids_len {E : Nat → Nd} {n i : Nat} (hf : Fit E n) (hi : i < n) : (kids E i).length ≤ n := by
  have h1 := (hf.2.2 i hi).kin.len
  have h2 := (hf.2.2 i hi).2.1
  omega

set_option maxRecDepth 100000 in
set_option maxHeartbeats 1600000 in
theorem weight_any (a : Addr) (n cap : Nat) (E : Nat → Nd) (hn : n ≤ 400) (hf : Fit E n) : ∀ (N i : Nat) (w : World), i < n → sz E i ≤ N → Lies w a n E →
    Calls Try.prog 18 #[.slice (some a) n cap, .int .i64 i] w fun e w' => Num e ∧ Below w.heap.size w w'
  | 0, i, w, hi, hN, _ => by
    have := (hf.2.2 i hi).pos
    omega
  | N + 1, i, w, hi, hN, ht => by
    have ih := Lib.hid (weight_any a n cap E hn hf N)
    have HT := Lib.hid ht
    have HF := Lib.hid hf
    clear ht
    go_enter Try.func18, Try.ntmps18
    go_wp2_with (go_at_call 6; refine (skids_any a n cap E hn i _ hf hi HT.out).mono ?_; rintro e w1 ⟨v, rfl, hv, hb1⟩; have hI1 := NumsIn.of_own hv; clear hv; obtain ⟨ao, cp, rfl, hc1, hc2⟩ := hI1.form; have HI := Lib.hid hI1; clear hI1)
    have HL := Lib.hid (kids_len hf hi)
    go_loopw [6, 7, 8, 9] (fun q1 q2 q3 v wr => ∃ (x1 x2 x3 : Int) (j : Nat), q1 = .int .i64 x1 ∧ q2 = .int .i64 x2 ∧ q3 = .int .i64 x3 ∧ v = .int .i64 j ∧ j ≤ (kids E i).length ∧ Below w1.heap.size w1 wr) (fun _ _ _ v _ => (kids E i).length - (intOf v).toNat)
    case atStart => exact ⟨_, _, _, 0, rfl, rfl, rfl, rfl, Nat.zero_le _, Below.refl _ _⟩
    case round =>
      obtain ⟨x1, x2, x3, j, rfl, rfl, rfl, rfl, hj, hbel⟩ := hrel
      have hbw : Below w.heap.size w wr := below_step (Nat.le_refl _) hb1 hbel
      by_cases hlt : j < (kids E i).length
      · obtain ⟨k, hk⟩ : ∃ k, (kids E i)[j]? = some k := ⟨_, List.getElem?_eq_getElem hlt⟩
        have HIr := Lib.hid (HI.out.below hbel)
        obtain ⟨g, o, rfl, hck⟩ := HIr.out.get hk
        obtain ⟨hkn, hks⟩ := kid_in HF.out hi (List.mem_of_getElem? hk)
        have hkn' : (k : Int) < n := by omega
        have hlt' : (j : Int) < (kids E i).length := by omega
        have hle := HL.out
        obtain ⟨ke, hke⟩ : ∃ ke, (E k).kind = ke := ⟨_, rfl⟩
        have HTr := Lib.hid (HT.out.below hbw)
        have hksN : sz E k ≤ N := by omega
        clear hk hks
        go_wp2_with (go_at_call 18; refine (ih.out k _ hkn hksN HTr.out).mono ?_; rintro e w2 ⟨⟨x4, rfl⟩, hb2⟩; have hck2 := cell_later hb2 hck; obtain ⟨p0, -⟩ := (HTr.out.below hb2) k hkn; rw [hke] at p0; clear hke; have hcs : ke = 36 ∨ ke = 35 ∨ ke = 37 ∨ ((ke == 36) = false ∧ (ke == 35) = false ∧ (ke == 37) = false) := (by simp only [beq_eq_false_iff_ne]; omega); rcases hcs with rfl | rfl | rfl | ⟨d1, d2, d3⟩)
        all_goals
          go_roundw
          case rel => exact ⟨_, _, _, j + 1, rfl, rfl, rfl, by go_num, by omega, below_step (Nat.le_refl _) hbel hb2⟩
          case measure => first | (simp [intOf]; done) | (simp [intOf]; omega)
      · obtain rfl : j = (kids E i).length := by omega
        go_wp2
        all_goals
          go_ret
          exact ⟨⟨_, rfl⟩, hbw⟩

set_option maxRecDepth 100000 in
set_option maxHeartbeats 3200000 in
theorem tangled_any (a : Addr) (n cap : Nat) (E : Nat → Nd) (hn : n ≤ 400) (hf : Fit E n) : ∀ (N i : Nat) (deep : Int) (w : World), i < n → sz E i ≤ N → Lies w a n E →
    Calls Try.prog 19 #[.slice (some a) n cap, .int .i64 i, .int .i64 deep] w fun e w' => Num e ∧ Below w.heap.size w w'
  | 0, i, deep, w, hi, hN, _ => by
    have := (hf.2.2 i hi).pos
    omega
  | N + 1, i, deep, w, hi, hN, ht => by
    have ih := Lib.hid (tangled_any a n cap E hn hf N)
    have HF := Lib.hid hf
    obtain ⟨q0, q1, q2, q3, q4⟩ := ht i hi
    obtain ⟨ke, hke⟩ : ∃ ke, (E i).kind = ke := ⟨_, rfl⟩
    obtain ⟨fl, hfl⟩ : ∃ fl, (E i).flag = fl := ⟨_, rfl⟩
    rw [hke] at q0
    rw [hfl] at q3
    clear hke hfl
    have HT := Lib.hid ht
    have hin : (i : Int) < n := by omega
    clear ht
    obtain ⟨t8, ht8⟩ : ∃ t, bits BinOp.and IntKind.i64 fl 8 = t := ⟨_, rfl⟩
    have hcs : (ke = 35 ∧ t8 = 0) ∨ (ke = 35 ∧ ¬ t8 = 0) ∨ (ke = 32 ∧ fl = 1) ∨ (ke = 32 ∧ ¬ fl = 1) ∨ ((ke == 35) = false ∧ (ke == 32) = false) := by
      simp only [beq_eq_false_iff_ne]
      omega
    have hkp : ke = 36 ∨ (ke == 36) = false := by
      simp only [beq_eq_false_iff_ne]
      omega
    have hdp : deep > 0 ∨ ¬ deep > 0 := by omega
    have HC := Lib.hid hcs
    have HD := Lib.hid hdp
    have HKP := Lib.hid hkp
    clear hdp hcs hkp
    go_enter Try.func19, Try.ntmps19
    go_upto_region 2 with fail
    obtain ⟨W, hW⟩ : ∃ W, w.alloc (.cells #[.int .i64 ke, .int .i64 (E i).op, .string (E i).text, .int .i64 fl, .int .i64 (E i).size] 28) = W := ⟨_, rfl⟩
    rw [hW]
    have hbW : Below w.heap.size w W := by rw [← hW]; go_grown
    obtain ⟨z0, z1, z2, z3, z4, -⟩ := cells5 (show W.heap[w.heap.size]? = _ by rw [← hW]; exact block_new w _)
    clear hW
    go_cut [8] from 16 to 34 (fun s8 wx => (∃ m : Bool, s8 = .bool m) ∧ wx = W)
    case first =>
      rcases HC.out with ⟨rfl, rfl⟩ | ⟨rfl, d1⟩ | ⟨rfl, rfl⟩ | ⟨rfl, d1⟩ | ⟨d1, d2⟩
      all_goals
        (try have e8 : (t8 == 0) = false := by simpa using d1)
        (try have e1 : (fl == 1) = false := by simpa using d1)
        go_wp2_with fail
        go_meet
        exact ⟨⟨_, rfl⟩, rfl⟩
    case rest =>
      obtain ⟨⟨m, rfl⟩, rfl⟩ := hcut
      go_upto_region 3 with fail
      go_cut [44] from 35 to 43 (fun s44 wx => (∃ b : Bool, s44 = .bool b) ∧ wx = wc)
      case first =>
        rcases HKP.out with rfl | d3
        · go_wp2_with fail
          go_meet
          exact ⟨⟨_, rfl⟩, rfl⟩
        · rcases HD.out with hd | hd <;> cases m
          all_goals
            go_wp2_with fail
            go_meet
            exact ⟨⟨_, rfl⟩, rfl⟩
      case rest =>
        obtain ⟨⟨b, rfl⟩, rfl⟩ := hcut
        go_upto_if 44 with fail
        go_cut [2] from 45 to 46 (fun s2 wx => (∃ d : Int, s2 = .int .i64 d) ∧ wx = wc)
        case first =>
          cases b
          all_goals
            go_wp2_with fail
            go_meet
            exact ⟨⟨_, rfl⟩, rfl⟩
        case rest =>
          obtain ⟨⟨d, rfl⟩, rfl⟩ := hcut
          go_wp2_with (go_at_call 6; refine (skids_any a n cap E hn i _ hf hi (HT.out.below hbW)).mono ?_; rintro e w1 ⟨v, rfl, hv, hb1⟩; have hbw1 : Below w.heap.size w w1 := below_step (Nat.le_refl _) hbW hb1; have hI1 := NumsIn.of_own hv; clear hv; obtain ⟨ao, cp, rfl, hc1, hc2⟩ := hI1.form; have HI := Lib.hid hI1; clear hI1)
          have HL := Lib.hid (kids_len hf hi)
          go_loopw [9, 11] (fun q1 v wr => ∃ (x1 : Int) (j : Nat), q1 = .int .i64 x1 ∧ v = .int .i64 j ∧ j ≤ (kids E i).length ∧ Below w1.heap.size w1 wr) (fun _ v _ => (kids E i).length - (intOf v).toNat)
          case atStart => exact ⟨_, 0, rfl, rfl, Nat.zero_le _, Below.refl _ _⟩
          case round =>
            obtain ⟨x1, j, rfl, rfl, hj, hbel⟩ := hrel
            have hbw : Below w.heap.size w wr := below_step (Nat.le_refl _) hbw1 hbel
            by_cases hlt : j < (kids E i).length
            · obtain ⟨k, hk⟩ : ∃ k, (kids E i)[j]? = some k := ⟨_, List.getElem?_eq_getElem hlt⟩
              have HIr := Lib.hid (HI.out.below hbel)
              obtain ⟨g, o, rfl, hck⟩ := HIr.out.get hk
              obtain ⟨hkn, hks⟩ := kid_in HF.out hi (List.mem_of_getElem? hk)
              have hkn' : (k : Int) < n := by omega
              have hlt' : (j : Int) < (kids E i).length := by omega
              have hle := HL.out
              have HTr := Lib.hid (HT.out.below hbw)
              have hksN : sz E k ≤ N := by omega
              clear hk hks
              go_wp2_with (go_at_call 19; refine (ih.out k _ _ hkn hksN HTr.out).mono ?_; rintro e w2 ⟨⟨x4, rfl⟩, hb2⟩)
              all_goals
                go_roundw
                case rel => exact ⟨_, j + 1, rfl, by go_num, by omega, below_step (Nat.le_refl _) hbel hb2⟩
                case measure => first | (simp [intOf]; done) | (simp [intOf]; omega)
            · obtain rfl : j = (kids E i).length := by omega
              go_wp2
              go_ret
              exact ⟨⟨_, rfl⟩, hbw⟩

theorem light_any (a : Addr) (n cap : Nat) (E : Nat → Nd) (hn : n ≤ 400) (hf : Fit E n) (w : World) (ht : Lies w a n E) :
    Calls Try.prog 11 #[.slice (some a) n cap] w fun e w' => Yes True e ∧ Below w.heap.size w w' := by
  have HT := Lib.hid ht
  have h0 := hf.1
  go_enter Try.func11, Try.ntmps11
  go_wp2_with (first
    | (go_at_call 18; refine (weight_any a n cap E hn hf _ 0 _ h0 (Nat.le_refl _) HT.out).mono ?_; rintro e w1 ⟨⟨x, rfl⟩, hb1⟩; by_cases hx : x ≤ 20000)
    | (go_at_call 19; refine (tangled_any a n cap E hn hf _ 0 0 _ h0 (Nat.le_refl _) (HT.out.below hb1)).mono ?_; rintro e w2 ⟨⟨y, rfl⟩, hb2⟩))
  all_goals
    go_ret
    exact ⟨⟨_, rfl, fun _ => trivial⟩, by first | exact hb1 | exact below_step (Nat.le_refl _) hb1 hb2⟩

set_option maxRecDepth 100000 in
theorem fits2_any (x0 x1 x3 x4 : Int) (t : ByteArray) (w : World) :
    Calls Try.prog 9 #[.agg #[.int .i64 x0, .int .i64 x1, .string t, .int .i64 x3, .int .i64 x4]] w fun e w' => Yes True e ∧ Below w.heap.size w w' := by
  by_cases h : (t.size : Int) > 2147483647
  all_goals
    go_enter Try.func9, Try.ntmps9
    go_wp2
    go_ret
    exact ⟨⟨_, rfl, fun _ => trivial⟩, by go_grown⟩

set_option maxRecDepth 100000 in
set_option maxHeartbeats 1600000 in
theorem fits1_any (a : Addr) (n cap : Nat) (E : Nat → Nd) (w : World) (ht : Lies w a n E) :
    Calls Try.prog 4 #[.slice (some a) n cap] w fun e w' => Yes (n ≤ 2147483647) e ∧ Below w.heap.size w w' := by
  have HT := Lib.hid ht
  clear ht
  by_cases hbig : (n : Int) > 2147483647
  · go_enter Try.func4, Try.ntmps4
    go_wp2
    go_ret
    exact ⟨⟨_, rfl, fun h => by cases h⟩, Below.refl _ _⟩
  go_enter Try.func4, Try.ntmps4
  go_wp2
  go_loopw [10] (fun v wr => ∃ j : Nat, v = .int .i64 j ∧ j ≤ n ∧ Below w.heap.size w wr) (fun v _ => n - (intOf v).toNat)
  case atStart => exact ⟨0, rfl, Nat.zero_le _, Below.refl _ _⟩
  case round =>
    obtain ⟨j, rfl, hj, hbel⟩ := hrel
    by_cases hlt : j < n
    · obtain ⟨q0, q1, q2, q3, q4⟩ := (HT.out.below hbel) j hlt
      have hlt' : (j : Int) < n := by omega
      go_wp2_with (go_at_call 9; refine (fits2_any _ _ _ _ _ _).mono ?_; rintro e w1 ⟨⟨r, rfl, -⟩, hb1⟩; have hbw : Below w.heap.size w w1 := below_step (Nat.le_refl _) hbel (below_step (Nat.le_refl _) (by go_grown) hb1); cases r)
      · go_ret
        exact ⟨⟨_, rfl, fun h => by cases h⟩, hbw⟩
      · go_roundw
        case rel => exact ⟨j + 1, by go_num, by omega, hbw⟩
        case measure => first | (simp [intOf]; done) | (simp [intOf]; omega)
    · obtain rfl : j = n := by omega
      go_wp2
      go_ret
      exact ⟨⟨_, rfl, fun _ => by omega⟩, hbel⟩
end Go.Proofs.Ytkpfbgeaodopoaa.fnDirect
