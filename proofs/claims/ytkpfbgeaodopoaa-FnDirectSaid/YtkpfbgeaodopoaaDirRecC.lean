/-
  FnDirect: the recogniser: sizes, kids, kinds.
-/
import Derived.Test.YtkpfbgeaodopoaaDirGrown
import Derived.Test.YtkpfbgeaodopoaaDirRecB
namespace Go.Proofs.Ytkpfbgeaodopoaa.fnDirect
open Go.RowKit
set_option linter.unusedSimpArgs false
set_option linter.unusedVariables false

/-- What sized finds. -/
def SzOk (E : Nat → Nd) (n i en : Nat) : Prop := 1 ≤ (E i).size ∧ i + sz E i ≤ en ∧ ∀ j, i ≤ j → j < i + sz E i → FitAt E n j

set_option maxRecDepth 100000 in
set_option maxHeartbeats 1600000 in
theorem sized_yes (a : Addr) (n cap : Nat) (E : Nat → Nd) (hn : n ≤ 400) : ∀ (N i en : Nat) (w : World), i < en → en ≤ n → en - i ≤ N → Lies w a n E →
    Calls Try.prog 14 #[.slice (some a) n cap, .int .i64 i, .int .i64 en] w fun e w' => Yes (SzOk E n i en) e ∧ w' = w
  | 0, i, en, w, h1, h2, h3, _ => by omega
  | N + 1, i, en, w, h1, h2, h3, ht => by
    have ih := Lib.hid (sized_yes a n cap E hn N)
    have HT := Lib.hid ht
    obtain ⟨-, -, -, -, q4⟩ := ht i (by omega)
    clear ht
    obtain ⟨s, hs⟩ : ∃ s, (E i).size = s := ⟨_, rfl⟩
    rw [hs] at q4
    have hS := Lib.hid hs
    clear hs
    have hin : (i : Int) < n := by omega
    by_cases c1 : s < 1
    · go_enter Try.func14, Try.ntmps14
      go_wp2
      go_ret
      exact ⟨⟨_, rfl, fun h => by cases h⟩, rfl⟩
    by_cases c2 : s > (en : Int) - i
    · go_enter Try.func14, Try.ntmps14
      go_wp2
      go_ret
      exact ⟨⟨_, rfl, fun h => by cases h⟩, rfl⟩
    obtain ⟨z, rfl⟩ : ∃ z : Nat, s = z := ⟨s.toNat, by omega⟩
    have hz : Hid (sz E i = z) := Lib.hid (by unfold sz; rw [hS.out]; rfl)
    go_enter Try.func14, Try.ntmps14
    go_wp2
    go_loop [8] (fun v => ∃ (m : Nat) (l : List Nat), v = .int .i64 m ∧ m ≤ i + z ∧ i + 1 ≤ m ∧ Hid (Kin (sz E) (i + 1) m l ∧ ∀ j, i + 1 ≤ j → j < m → FitAt E n j)) (fun v => i + z - (intOf v).toNat)
    case atStart => exact ⟨i + 1, [], by go_num, by omega, by omega, Lib.hid ⟨.nil _, fun j h1 h2 => by omega⟩⟩
    case round =>
      obtain ⟨m, l, rfl, hm1, hm2, HM⟩ := hrel
      by_cases hlt : m < i + z
      · have hmn : m < n := by omega
        obtain ⟨-, -, -, -, r4⟩ := HT.out m hmn
        have HC := Lib.hid (ih.out m (i + z) w hlt (by omega) (by omega) HT.out)
        have hcast : ((i + z : Nat) : Int) = (i : Int) + z := by omega
        rw [hcast] at HC
        go_wp2_with (go_at_call 14; refine HC.out.mono ?_; rintro e w1 ⟨⟨r, rfl, hr⟩, rfl⟩; have HR := Lib.hid hr; clear hr; cases r; (rotate_left; obtain ⟨o1, o2, o3⟩ := HR.out rfl; have o4 : (E m).size = (sz E m : Int) := (by unfold sz; omega); have o5 : 1 ≤ sz E m := (by omega); rw [o4] at r4; have HO := Lib.hid o3; clear o1 o3 o4); rotate_left)
        · go_ret
          exact ⟨⟨_, rfl, fun h => by cases h⟩, rfl⟩
        · go_round
          case rel =>
            refine ⟨m + sz E m, l ++ [m], by go_num, by omega, by omega, Lib.hid ⟨HM.out.1.snoc o5, fun j h1 h2 => ?_⟩⟩
            by_cases hj : j < m
            · exact HM.out.2 j h1 hj
            · exact HO.out j (by omega) h2
          case measure => first | (simp [intOf]; done) | (simp [intOf]; omega)
      · obtain rfl : m = i + z := by omega
        go_wp2
        go_ret
        refine ⟨⟨_, rfl, fun _ => ?_⟩, rfl⟩
        unfold SzOk
        rw [hz.out, hS.out]
        refine ⟨by omega, by omega, fun j h1 h2 => ?_⟩
        by_cases hj : j = i
        · subst hj
          refine ⟨by rw [hS.out]; omega, by rw [hz.out]; omega, l, ?_⟩
          rw [hz.out]
          exact HM.out.1
        · exact HM.out.2 j (by omega) h2

/-- Numbers of places in memory. -/
def NumsIn (w : World) (v : Value) (l : List Nat) : Prop :=
  ∃ ao cap, v = .slice ao l.length cap ∧ l.length ≤ cap ∧ cap ≤ maxLen ∧ (l = [] ∨ ∃ g o, ao = some ⟨g, o, none⟩ ∧ ∀ (i k : Nat), l[i]? = some k → w.cell? ⟨g, o + i, none⟩ = some (.int .i64 k))

theorem NumsIn.below {w w' : World} {v : Value} {l : List Nat} (h : NumsIn w v l) (hb : Below w.heap.size w w') : NumsIn w' v l := by
  obtain ⟨ao, cap, h1, h2, h3, h4⟩ := h
  refine ⟨ao, cap, h1, h2, h3, ?_⟩
  rcases h4 with h4 | ⟨g, o, h5, h7⟩
  · exact .inl h4
  · exact .inr ⟨g, o, h5, fun i k hi => cell_later hb (h7 i k hi)⟩

theorem NumsIn.of_own {w : World} {B : Nat} {v : Value} {l : List Nat} (h : w.ownsRow B 3 1 v l.length (ints l)) : NumsIn w v l := by
  rcases own_form h with ⟨rfl, h2⟩ | ⟨g, cap, rfl, hg, -, h3, h4⟩
  · have : l = [] := List.length_eq_zero_iff.1 h2
    subst this
    exact ⟨none, 0, rfl, Nat.le_refl _, Nat.zero_le _, .inl rfl⟩
  · refine ⟨_, _, rfl, h3, h4, .inr ⟨g, 0, rfl, fun i k hi => ?_⟩⟩
    rw [Nat.zero_add]
    refine own_cell h rfl (List.getElem?_eq_some_iff.1 hi).1 ?_
    unfold ints
    rw [List.getElem?_map, hi]
    rfl

theorem NumsIn.form {w : World} {v : Value} {l : List Nat} (h : NumsIn w v l) : ∃ ao cap, v = .slice ao l.length cap ∧ l.length ≤ cap ∧ cap ≤ maxLen := by
  obtain ⟨ao, cap, h1, h2, h3, -⟩ := h
  exact ⟨ao, cap, h1, h2, h3⟩

theorem NumsIn.get {w : World} {ao : Option Addr} {n cap : Nat} {l : List Nat} (h : NumsIn w (.slice ao n cap) l) {i k : Nat} (hi : l[i]? = some k) : ∃ g o, ao = some ⟨g, o, none⟩ ∧ w.cell? ⟨g, o + i, none⟩ = some (.int .i64 k) := by
  obtain ⟨ao', cap', h1, h2, h3, h4⟩ := h
  cases h1
  rcases h4 with rfl | ⟨g, o, h5, h7⟩
  · simp at hi
  · exact ⟨g, o, h5, h7 i k hi⟩

theorem NumsIn.left {w : World} {ao : Option Addr} {n cap : Nat} {l l' : List Nat} (h : NumsIn w (.slice ao n cap) (l ++ l')) : NumsIn w (.slice ao l.length cap) l := by
  obtain ⟨ao', cap', h1, h2, h3, h4⟩ := h
  cases h1
  refine ⟨_, _, rfl, by simp at h2; omega, h3, ?_⟩
  rcases h4 with h4 | ⟨g, o, h5, h7⟩
  · exact .inl (List.append_eq_nil_iff.1 h4).1
  · exact .inr ⟨g, o, h5, fun i k hi => h7 i k (by rw [List.getElem?_append_left (List.getElem?_eq_some_iff.1 hi).1]; exact hi)⟩

theorem NumsIn.drop {w : World} {g o n cap : Nat} {l l' : List Nat} (h : NumsIn w (.slice (some ⟨g, o, none⟩) n cap) (l ++ l')) : NumsIn w (.slice (some ⟨g, o + l.length, none⟩) l'.length (cap - l.length)) l' := by
  obtain ⟨ao', cap', h1, h2, h3, h4⟩ := h
  cases h1
  rw [List.length_append] at h2
  refine ⟨_, _, rfl, by omega, by omega, ?_⟩
  rcases h4 with h4 | ⟨g', o', h5, h7⟩
  · exact .inl (List.append_eq_nil_iff.1 h4).2
  · cases h5
    refine .inr ⟨g, o + l.length, rfl, fun i k hi => ?_⟩
    have := h7 (l.length + i) k (by rw [List.getElem?_append_right (by omega), Nat.add_sub_cancel_left]; exact hi)
    rwa [← Nat.add_assoc] at this

theorem NumsIn.nil (w : World) (ao : Option Addr) (cap : Nat) (hc : cap ≤ maxLen) : NumsIn w (.slice ao 0 cap) [] := ⟨ao, cap, rfl, Nat.zero_le _, hc, .inl rfl⟩

set_option maxRecDepth 100000 in
theorem skids_any (a : Addr) (n cap : Nat) (E : Nat → Nd) (hn : n ≤ 400) (i : Nat) (w : World) (hf : Fit E n) (hi : i < n) (ht : Lies w a n E) :
    Calls Try.prog 6 #[.slice (some a) n cap, .int .i64 i] w fun e w' => ∃ v, e = .returned v ∧ w'.ownsRow w.heap.size 3 1 v (kids E i).length (ints (kids E i)) ∧ Below w.heap.size w w' := by
  have HF := Lib.hid (hf.2.2 i hi).kin
  have HA := Lib.hid hf.2.2
  have HT := Lib.hid ht
  have hsz := (hf.2.2 i hi).2.1
  have hsz1 := (hf.2.2 i hi).1
  have hse := (hf.2.2 i hi).size
  clear hf ht
  go_enter Try.func6, Try.ntmps6
  go_wp2_with fail
  go_loopw [5, 6] (fun v k wr => ∃ (l l' : List Nat) (m : Nat), Kin (sz E) (i + 1) m l ∧ Kin (sz E) m (i + sz E i) l' ∧ kids E i = l ++ l' ∧ k = .int .i64 m ∧ wr.ownsRow w.heap.size 3 1 v l.length (ints l) ∧ Below w.heap.size w wr) (fun _ k _ => i + sz E i - (intOf k).toNat)
  case atStart => exact ⟨[], kids E i, i + 1, .nil _, HF.out, rfl, by simp, World.ownsRow_nil _ _ _ _, Below.refl _ _⟩
  case round =>
    obtain ⟨l, l', m, k1, k2, hl, rfl, hrow, hbel⟩ := hrel
    have HR := Lib.hid hrow
    have HTr := Lib.hid (HT.out.below hbel)
    have hsr := hbel.size
    obtain ⟨-, -, -, -, q4⟩ := HTr.out i hi
    have hle := k2.le
    rw [hse] at q4
    clear hrow
    by_cases hlt : m < i + sz E i
    · obtain ⟨l2, rfl⟩ := k2.head hlt
      obtain ⟨-, z1, z2, k3⟩ := k2.cons_inv
      have hm : m < n := by omega
      have hsm := (HA.out m hm).size
      obtain ⟨-, -, -, -, r4⟩ := HTr.out m hm
      rw [hsm] at r4
      have hlen := k1.len
      have KK := Lib.hid (And.intro k1 (And.intro k3 hl))
      clear k1 k2 k3 hl
      obtain ⟨ao, cp, rfl⟩ := owns_slice HR.out
      go_wp2_with (at_builtin; refine wpList_append_run rfl (.tmp 25) (.tmp 27) 25 rfl (app1 (wr := wr) (B := w.heap.size) 25 25 3 Try.underlying25 infoInt rfl HR.out hsr (grown_of_below (by go_grown)) (by omega) (by omega) (.int .i64 m) rfl _ _ (cell_at_new (by simp))) ?_; rintro v1 w2 ⟨hown2, hg, hbb⟩; have HO2 := Lib.hid hown2; have HG2 := Lib.hid hg; have HBB := Lib.hid hbb; clear hown2 hg hbb; have hb2 := (hbel.alloc hsr _).grown HG2.out (by simp; omega) (fun b hb => (HBB.out b hb).1); have HT2 := Lib.hid (HT.out.below hb2); obtain ⟨-, -, -, -, d4⟩ := HT2.out m hm; rw [hsm] at d4)
      go_roundw
      case rel =>
        obtain ⟨k1, k3, hl⟩ := KK.out
        exact ⟨l ++ [m], l2, m + sz E m, k1.snoc z1, k3, by rw [hl]; simp, by go_num, by rw [List.length_append, ints_snoc]; exact HO2.out, hb2⟩
      case measure => first | (simp [intOf]; done) | (simp [intOf]; omega)
    · obtain rfl : m = i + sz E i := by omega
      have h0 : l' = [] := by
        have := k2.len
        exact List.length_eq_zero_iff.1 (by omega)
      subst h0
      rw [List.append_nil] at hl
      have HL := Lib.hid hl
      clear hl k1 k2
      go_wp2
      go_ret
      refine ⟨_, rfl, ?_, hbel⟩
      rw [HL.out]
      exact HR.out

theorem expr_any (a : Addr) (n cap : Nat) (E : Nat → Nd) (hn : n ≤ 400) (i : Nat) (w : World) (hi : i < n) (ht : Lies w a n E) :
    Calls Try.prog 15 #[.slice (some a) n cap, .int .i64 i] w fun e w' => e = .returned (.bool (decide (ex (E i)))) ∧ w' = w := by
  obtain ⟨q0, -⟩ := ht i hi
  have hin : (i : Int) < n := by omega
  obtain ⟨k, hk⟩ : ∃ k, (E i).kind = k := ⟨_, rfl⟩
  rw [hk] at q0
  have HK := Lib.hid hk
  have HE : Hid (ex (E i) ↔ 1 ≤ k ∧ k ≤ 30) := Lib.hid (by unfold ex; rw [hk])
  clear ht hk
  by_cases c1 : 1 ≤ k
  · by_cases c2 : k ≤ 30
    all_goals
      go_enter Try.func15, Try.ntmps15
      go_wp2
      go_ret
      refine ⟨?_, rfl⟩
      first
        | (rw [decide_eq_true (HE.out.2 ⟨c1, c2⟩)]; done)
        | (rw [decide_eq_false (fun h => absurd (HE.out.1 h).2 (by omega))]; done)
        | (rw [decide_eq_true (HE.out.2 ⟨by omega, by omega⟩)]; rfl)
        | (rw [decide_eq_false (fun h => absurd (HE.out.1 h).2 (by omega))]; rfl)
  · go_enter Try.func15, Try.ntmps15
    go_wp2
    go_ret
    refine ⟨?_, rfl⟩
    rw [decide_eq_false (fun h => absurd (HE.out.1 h).1 (by omega))]
    rfl

theorem exprs_yes (a : Addr) (n cap : Nat) (E : Nat → Nd) (hn : n ≤ 400) (l : List Nat) (lv : Value) (w : World) (hl : ∀ k ∈ l, k < n) (hln : l.length ≤ n) (ht : Lies w a n E) (hI : NumsIn w lv l) :
    Calls Try.prog 27 #[.slice (some a) n cap, lv] w fun e w' => Yes (∀ k ∈ l, ex (E k)) e ∧ w' = w := by
  obtain ⟨ao, cp, rfl, hc1, hc2⟩ := hI.form
  have HI := Lib.hid hI
  have HT := Lib.hid ht
  have HL := Lib.hid hl
  clear hI ht hl
  go_enter Try.func27, Try.ntmps27
  go_wp2
  go_loop [5] (fun v => ∃ j : Nat, v = .int .i64 j ∧ j ≤ l.length ∧ Hid (∀ m, m < j → ∀ k, l[m]? = some k → ex (E k))) (fun v => l.length - (intOf v).toNat)
  case atStart => exact ⟨0, rfl, Nat.zero_le _, Lib.hid (fun m hm => absurd hm (by omega))⟩
  case round =>
    obtain ⟨j, rfl, hj, HJ⟩ := hrel
    by_cases hlt : j < l.length
    · obtain ⟨k, hk⟩ : ∃ k, l[j]? = some k := ⟨_, List.getElem?_eq_getElem hlt⟩
      obtain ⟨g, o, rfl, hc⟩ := HI.out.get hk
      have hkn := HL.out k (List.mem_of_getElem? hk)
      have HKj := Lib.hid hk
      clear hk
      by_cases hx : ex (E k)
      · have HD : Hid (decide (ex (E k)) = true) := Lib.hid (decide_eq_true hx)
        have HX := Lib.hid hx
        clear hx
        go_wp2_with (go_at_call 15; refine (expr_any a n cap E hn k _ hkn HT.out).mono ?_; rintro e w1 ⟨rfl, rfl⟩; rw [HD.out])
        go_round
        case rel =>
          refine ⟨j + 1, by go_num, by omega, Lib.hid (fun m hm k' hk' => ?_)⟩
          by_cases hmj : m < j
          · exact HJ.out m hmj k' hk'
          · obtain rfl : m = j := by omega
            rw [HKj.out] at hk'
            cases hk'
            exact HX.out
        case measure => first | (simp [intOf]; done) | (simp [intOf]; omega)
      · have HD : Hid (decide (ex (E k)) = false) := Lib.hid (decide_eq_false hx)
        clear hx
        go_wp2_with (go_at_call 15; refine (expr_any a n cap E hn k _ hkn HT.out).mono ?_; rintro e w1 ⟨rfl, rfl⟩; rw [HD.out])
        go_ret
        exact ⟨⟨_, rfl, fun h => by cases h⟩, rfl⟩
    · obtain rfl : j = l.length := by omega
      go_wp2
      go_ret
      refine ⟨⟨_, rfl, fun _ k hk => ?_⟩, rfl⟩
      obtain ⟨m, hm⟩ := List.mem_iff_getElem?.1 hk
      exact HJ.out m (List.getElem?_eq_some_iff.1 hm).1 k hm
end Go.Proofs.Ytkpfbgeaodopoaa.fnDirect
