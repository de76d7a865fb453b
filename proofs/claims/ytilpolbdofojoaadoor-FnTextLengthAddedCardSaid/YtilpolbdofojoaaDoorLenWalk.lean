/-
  FnTextLengthAdded: the law's walk, over a contract of the library's test of a text.
-/
import Derived.Test.YtilpolbdofojoaaDoorLenDoor
import Derived.Test.YtilpolbdofojoaaDoorFl
import Derived.Laws.FloatArith
namespace Go.Proofs.YtilpolbdofojoaaDoor.fnTextLengthAdded
open Go.RowKit
set_option linter.unusedSimpArgs false
set_option linter.unusedVariables false

theorem add_ints (n m : Nat) (hn : n ≤ 4000) (hm : m ≤ 4000) : ∃ r, Ieee.double.add (floatOfInt FloatKind.f64 n) (floatOfInt FloatKind.f64 m) = some r ∧ (FloatKind.f64.format.order (floatOfInt FloatKind.f64 (n + m : Nat)) r == some .eq) = true := by
  have hn' : Fl.Is (floatOfInt FloatKind.f64 n) ((n : Int) : Rat) := Fl.ofI_is n (by omega)
  have hm' : Fl.Is (floatOfInt FloatKind.f64 m) ((m : Int) : Rat) := Fl.ofI_is m (by omega)
  have hs : Fl.Is (floatOfInt FloatKind.f64 (n + m : Nat)) (((n + m : Nat) : Int) : Rat) := Fl.ofI_is _ (by omega)
  have hsum : ((n : Int) : Rat) + ((m : Int) : Rat) = (((n + m : Nat) : Int) : Rat) := by
    rw [← Rat.intCast_add]
    congr 1
  have hc : (((n + m : Nat) : Int) : Rat) = ((n + m : Nat) : Rat) := Rat.intCast_natCast _
  have hb1 : ((n : Int) : Rat) + ((m : Int) : Rat) < Fl.pw 1023 := by
    rw [hsum, hc]
    have h13 : n + m ≤ 2 ^ 13 := by omega
    exact Fl.lt_1023 (Fl.cast_le_pw h13) (by decide)
  have hb2 : -(Fl.pw 1023) < ((n : Int) : Rat) + ((m : Int) : Rat) := by
    rw [hsum, hc]
    exact Fl.neg_lt Rat.natCast_nonneg
  obtain ⟨r, v, h1, h2, h3⟩ := Fl.add_is hn' hm' hb1 hb2
  have hv := Fl.rounds_exact h3 ((n + m : Nat) : Int) 0 (by omega) (by omega) (by rw [hsum]; simp [Fl.pw])
  refine ⟨r, h1, ?_⟩
  have hd : FloatKind.f64.format = Ieee.double := rfl
  rw [hd, Fl.order_fv hs.num h2.num, hs.fv, h2.fv, hv, hsum]
  simp [Rat.lt_irrefl]

theorem zero_int : floatOfInt FloatKind.f64 ((0 : Nat) : Int) = 0 := by decide +kernel

theorem pos_int (n : Nat) (h0 : 0 < n) (hn : n ≤ 4000) : (FloatKind.f64.format.order (floatOfInt FloatKind.f64 n) 0 == some .gt) = true ∧ (FloatKind.f64.format.order (floatOfInt FloatKind.f64 n) 0 == some .eq) = false := by
  have hn' : Fl.Is (floatOfInt FloatKind.f64 n) ((n : Int) : Rat) := Fl.ofI_is n (by omega)
  have hd : FloatKind.f64.format = Ieee.double := rfl
  have hlt : (0 : Rat) < ((n : Int) : Rat) := by
    rw [show (0 : Rat) = ((0 : Int) : Rat) from rfl]
    exact Rat.intCast_lt_intCast.2 (by omega)
  rw [hd, Fl.order_fv hn'.num Fl.zero_is.num, hn'.fv, Fl.zero_is.fv, if_neg (Rat.not_lt.2 (Rat.le_of_lt hlt)), if_neg (fun h => by rw [h] at hlt; exact Rat.lt_irrefl hlt)]
  exact ⟨rfl, rfl⟩

/-- What the library's test of a text tells, in worlds that hold its tables. -/
structure Tests (T : World → Prop) : Prop where
  valid : ∀ (s : ByteArray) (w : World), s.size ≤ 2000 → T w → Calls Tryd.prog 6 #[.string s] w fun e w' => e = .returned (.bool (Lib.validD s.data.toList)) ∧ Below w.heap.size w w'
  later : ∀ (w w' : World), T w → Below w.heap.size w w' → T w'

set_option maxRecDepth 100000 in
theorem short_any {T : World → Prop} (H : Tests T) (a b : ByteArray) (g : Addr) (w : World) (hT : T w) (h0 : w.cell? g = some (.string a)) (h1 : w.cell? (g.add 1) = some (.string b)) :
    Calls Tryd.prog 4 #[.slice (some g) 2 2] w fun e w' => IsB (fun r => r = true → a.size ≤ 2000 ∧ b.size ≤ 2000 ∧ Lib.validD a.data.toList = true ∧ Lib.validD b.data.toList = true) e ∧ Below w.heap.size w w' := by
  have HH := Lib.hid H
  have HT := Lib.hid hT
  have HC : Hid (∀ k, k < 2 → w.cell? (g.add k) = some (.string (if k = 0 then a else b))) := Lib.hid (fun k hk => by
    rcases (by omega : k = 0 ∨ k = 1) with rfl | rfl
    · exact h0
    · exact h1)
  clear H hT h0 h1
  go_enter Tryd.func4, Tryd.ntmps4
  go_wp2_with fail
  go_loopw [3] (fun i wr => ∃ k : Nat, k ≤ 2 ∧ i = .int .i64 k ∧ T wr ∧ Below w.heap.size w wr ∧ Hid (∀ j, j < k → (if j = 0 then a else b).size ≤ 2000 ∧ Lib.validD (if j = 0 then a else b).data.toList = true)) (fun i _ => 2 - (intOf i).toNat)
  case atStart => exact ⟨0, Nat.zero_le _, rfl, HT.out, Below.refl _ _, Lib.hid (fun j hj => absurd hj (by omega))⟩
  case round =>
    obtain ⟨k, hk, rfl, hT, hbel, HP⟩ := hrel
    have HT2 := Lib.hid hT
    clear hT
    by_cases hlt : k < 2
    · have c1 := cell_later hbel (HC.out k hlt)
      obtain ⟨s, hs⟩ : ∃ s, (if k = 0 then a else b) = s := ⟨_, rfl⟩
      rw [hs] at c1
      have HS := Lib.hid hs
      clear hs
      by_cases hz : (2000 : Int) < s.size
      · go_wp2
        go_ret
        exact ⟨⟨_, rfl, fun h => by cases h⟩, hbel⟩
      go_wp2_with fail
      refine (HH.out.valid s _ (by omega) HT2.out).mono ?_
      rintro e w1 ⟨rfl, hb1⟩
      have hb2 := below_step (Nat.le_refl _) hbel hb1
      have HT3 := Lib.hid (HH.out.later _ _ HT2.out hb1)
      cases hv : Lib.validD s.data.toList
      · go_wp2
        go_ret
        exact ⟨⟨_, rfl, fun h => by cases h⟩, hb2⟩
      · have HP' : Hid (∀ j, j < k + 1 → (if j = 0 then a else b).size ≤ 2000 ∧ Lib.validD (if j = 0 then a else b).data.toList = true) := Lib.hid (fun j hj => by
          by_cases hjk : j = k
          · subst hjk
            rw [HS.out]
            exact ⟨by omega, hv⟩
          · exact HP.out j (by omega))
        go_wp2
        go_roundw
        case rel => exact ⟨k + 1, by omega, by go_num, HT3.out, hb2, HP'⟩
        case measure => first | (simp [intOf]; done) | (simp [intOf]; omega)
    · obtain rfl : k = 2 := by omega
      have p0 := HP.out 0 (by omega)
      have p1 := HP.out 1 (by omega)
      simp only [if_true, Nat.one_ne_zero, if_false] at p0 p1
      go_wp2
      go_ret
      exact ⟨⟨_, rfl, fun _ => ⟨p0.1, p1.1, p0.2, p1.2⟩⟩, hbel⟩

theorem append_size (a b : ByteArray) : (a ++ b).size = a.size + b.size := ByteArray.size_append

set_option maxRecDepth 100000 in
theorem walk_of {T : World → Prop} (H : Tests T) (a0 a1 : ByteArray) (w : World) (w0 : a0.size ≤ maxLen) (w1 : a1.size ≤ maxLen) (hT : T w) :
    Calls Tryd.prog 3 #[.string a0, .string a1] w fun e w' => e = .returned (.bool true) ∧ Below w.heap.size w w' := by
  have HH := Lib.hid H
  have HT := Lib.hid hT
  clear H hT w0 w1
  by_cases z0 : (2147483647 : Int) < a0.size
  · go_enter Tryd.func3, Tryd.ntmps3
    go_wp2
    go_ret
    exact ⟨rfl, by go_grown⟩
  by_cases z1 : (2147483647 : Int) < a1.size
  · go_enter Tryd.func3, Tryd.ntmps3
    go_wp2
    go_ret
    exact ⟨rfl, by go_grown⟩
  go_enter Tryd.func3, Tryd.ntmps3
  go_wp2_with fail
  refine (short_any HH.out a0 a1 _ _ (HH.out.later _ _ HT.out (by go_grown)) (by simp) (by simp [Addr.add])).mono ?_
  rintro e w2 ⟨⟨r, rfl, hr⟩, hb1⟩
  have hb2 : Below w.heap.size w w2 := below_step (Nat.le_refl _) (by go_grown) hb1
  cases r
  · go_wp2
    go_ret
    exact ⟨rfl, hb2⟩
  obtain ⟨h0, h1, v0, v1⟩ := hr rfl
  obtain ⟨q, hq, he⟩ := add_ints (points a0) (points a1) (Nat.le_trans (points_le a0) (by omega)) (Nat.le_trans (points_le a1) (by omega))
  rw [← points_app a0 a1 v0] at he
  have hop := fun w => run_float_arith (P := Tryd.prog) w .add 23 .f64 _ _ q hq
  have hsz := append_size a0 a1
  have hle : (a0 ++ a1).size ≤ 4000 := by omega
  have hemp : a0.toList.isEmpty = decide (points a0 = 0) := by
    rw [ByteArray.toList_eq, Bool.eq_iff_iff, decide_eq_true_iff, points_zero]
    simp
    exact ⟨fun h => ByteArray.ext h, fun h => by rw [h]; rfl⟩
  have hle0 := Nat.le_trans (points_le a0) h0
  clear hr v0 v1 hq
  go_wp2_with fail
  refine (text_any a0 (by omega) _).mono ?_
  rintro e w3 ⟨rfl, hb3⟩
  have hb4 := below_step (Nat.le_refl _) hb2 hb3
  go_wp2_with fail
  refine (text_any a1 (by omega) _).mono ?_
  rintro e w4 ⟨rfl, hb5⟩
  have hb6 := below_step (Nat.le_refl _) hb4 hb5
  go_wp2_with fail
  refine (text_any (a0 ++ a1) hle _).mono ?_
  rintro e w5 ⟨rfl, hb7⟩
  have hb8 := below_step (Nat.le_refl _) hb6 hb7
  clear hb1 hb2 hb3 hb4 hb5 hb6 hb7
  have hcmp : (FloatKind.f64.format.order (floatOfInt FloatKind.f64 (points a0)) 0 == some .eq) = decide (points a0 = 0) ∧ (FloatKind.f64.format.order (floatOfInt FloatKind.f64 (points a0)) 0 == some .gt) = !decide (points a0 = 0) := by
    by_cases hp : points a0 = 0
    · rw [hp, zero_int]
      decide +kernel
    · have := pos_int (points a0) (by omega) (by omega)
      rw [decide_eq_false hp]
      exact ⟨this.2, this.1⟩
  obtain ⟨q1, q2⟩ := hcmp
  generalize floatOfInt FloatKind.f64 (points a0) = x at *
  generalize floatOfInt FloatKind.f64 (points a1) = y at *
  generalize floatOfInt FloatKind.f64 (points (a0 ++ a1)) = z at *
  generalize decide (points a0 = 0) = bb at *
  cases bb
  · go_wp2
    go_ret
    exact ⟨rfl, hb8⟩
  · go_wp2
    go_ret
    exact ⟨rfl, hb8⟩
end Go.Proofs.YtilpolbdofojoaaDoor.fnTextLengthAdded
