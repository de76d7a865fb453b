/-
  FnFodderIndents: what the specification's code computes.
-/
import Derived.Test.YthdlekfnmabldaaIndImpl
namespace Go.Proofs.Ythdlekfnmabldaa.fnFodderIndents
open Go.RowKit
set_option linter.unusedSimpArgs false

/-- An append in a row of operations, by what its run is known to leave. -/
theorem wpList_append_run {P : Program} {w : World} {ops : Array Oper} {rest : List Oper} {o : Oper} {a : Act} {Q : Exit → Act → World → Prop} {R : Value → World → Prop} (hgd : o.guard = none) (s x : Operand) (t : TypeId)
    (ho : o.op = .call { callee := .builtin .append, args := #[s, x], argTypes := #[t, t] })
    (hrun : ∃ v' w', (Builtin.append_ #[t, t] o.type #[a.eval s, a.eval x]).run P w = .ok v' w' ∧ R v' w')
    (h : ∀ v' w', R v' w' → wpList P ops Q rest (a.put o.dst v') w') : wpList P ops Q (o :: rest) a w := by
  refine wpList_plain hgd fun K hK => ?_
  obtain ⟨v', w', hr, hR⟩ := hrun
  unfold Oper.wp
  simp [execOp, ho, resolve, invoke, builtin, hr, Result.andThen]
  exact hK _ _ (h v' w' hR)

/-- The comments as they lie. -/
def asIs (E : Nat → El) : Nat → Value := fun j => .slice (E j).ca (E j).cl (E j).cc

theorem GE_congr {C : Nat → Value} {E E' : Nat → El} {k : Nat} (h : ∀ j, j < k → E j = E' j) : GE C E k = GE C E' k := by
  unfold GE
  exact Go.Deep.flatMap_congr_range (fun j hj => by rw [h j hj])

theorem GE_set (C : Nat → Value) (E : Nat → El) (len k : Nat) (x : Int) (hk : k < len) : (GE C E len).set (k * 4 + 2) (.int .i64 x) = GE C (upd E k x) len := by
  apply List.ext_getElem?
  intro n
  have hl := GE_length C E len
  have hl' := GE_length C (upd E k x) len
  by_cases hn : n < len * 4
  · have e : n = n / 4 * 4 + n % 4 := by omega
    have h1 := GE_get C E len (n / 4) (n % 4) (by omega) (by omega)
    have h2 := GE_get C (upd E k x) len (n / 4) (n % 4) (by omega) (by omega)
    rw [← e] at h1 h2
    rw [List.getElem?_set, h2]
    by_cases hq : k * 4 + 2 = n
    · rw [if_pos hq, if_pos (by omega)]
      have e1 : n / 4 = k := by omega
      have e2 : n % 4 = 2 := by omega
      rw [e1, e2]
      simp [upd]
    · rw [if_neg hq, h1]
      by_cases hj : n / 4 = k
      · have e3 : n % 4 = 0 ∨ n % 4 = 1 ∨ n % 4 = 3 := by omega
        rcases e3 with e3 | e3 | e3 <;> rw [e3, hj] <;> simp [upd]
      · simp [upd, hj]
  · rw [List.getElem?_eq_none (by rw [List.length_set]; omega), List.getElem?_eq_none (by omega)]

theorem copyEls {h : Nat} (c : Option Addr) (len cap : Nat) (E : Nat → El) (w : World) (hlen : len ≤ 100) (hs : ElsIn w c len cap E) (hh : w.heap[h]? = some (.cells #[] 28 (0, 0))) :
    ∃ v' w', (Builtin.append_ #[22, 22] 22 #[.slice (some ⟨h, 0, none⟩) 0 0, .slice c len cap]).run Try.prog w = .ok v' w' ∧ (w'.ownsRow h 28 4 v' len (GE (asIs E) E len) ∧ w.grownBy w' (some h)) := by
  obtain ⟨i0, hi, hz0, hz1, hz2⟩ := info_parts infoEl
  have hlt : h < w.heap.size := (Array.getElem?_eq_some_iff.1 hh).1
  have hown : w.ownsRow h 28 4 (.slice (some ⟨h, 0, none⟩) 0 0) 0 [] := ⟨by simp, .inr ⟨h, 0, #[], rfl, Nat.le_refl _, hh, Nat.le_refl _, Nat.zero_le _, by simp, by simp⟩⟩
  rcases hs with ⟨rfl, rfl, rfl⟩ | ⟨a, rfl, h1, h2, h3⟩
  · have hrun := run_append_owned_none (P := Try.prog) (w := w) h 22 22 28 i0 4 Try.underlying22 hi _ 0 [] hown
    exact ⟨_, _, hrun, hown, World.grownBy.refl _ _⟩
  · obtain ⟨v', w', hr, h4, h5, -⟩ := run_append_own (P := Try.prog) w h 22 22 28 i0 (.agg #[.int .i64 0, .int .i64 0, .int .i64 0, .slice none 0 0]) 4 48 Try.underlying22 hi hz0 hz1 hz2 rfl (by decide) _ 0 [] hown a len cap (GE (asIs E) E len) (GE_length _ _ _)
      (fun n u hn => by
        have hlen' := GE_length (asIs E) E len
        have hn1 : n < len * 4 := by
          rcases Nat.lt_or_ge n (len * 4) with h | h
          · exact h
          · rw [List.getElem?_eq_none (by omega)] at hn; cases hn
        have e : n = n / 4 * 4 + n % 4 := by omega
        have hg := GE_get (asIs E) E len (n / 4) (n % 4) (by omega) (by omega)
        rw [← e, hn] at hg
        obtain ⟨c0, c1, c2, c3, -⟩ := h3 (n / 4) (by omega)
        have e3 : n % 4 = 0 ∨ n % 4 = 1 ∨ n % 4 = 2 ∨ n % 4 = 3 := by omega
        have ha : ∀ q, 0 < q → a.add (n / 4 * 4 + q) = ⟨(a.add (n / 4 * 4)).block, (a.add (n / 4 * 4)).off + q, none⟩ := fun q hq => by
          rw [← Go.Deep.add_add]
          show (if q = 0 then _ else _) = _
          rw [if_neg (by omega)]
        rw [e]
        rcases e3 with e3 | e3 | e3 | e3
        · rw [e3] at hg ⊢
          simp at hg
          subst hg
          rw [Nat.add_zero]
          exact c0
        · rw [e3] at hg ⊢
          simp at hg
          subst hg
          rw [ha 1 (by omega)]
          exact c1
        · rw [e3] at hg ⊢
          simp at hg
          subst hg
          rw [ha 2 (by omega)]
          exact c2
        · rw [e3] at hg ⊢
          simp at hg
          subst hg
          rw [ha 3 (by omega)]
          exact c3)
      (fun u hu => by
        unfold GE at hu
        obtain ⟨j, -, hj⟩ := List.mem_flatMap.1 hu
        simp [asIs] at hj
        rcases hj with rfl | rfl | rfl | rfl <;> rfl) (by unfold maxLen; omega) (by omega) (by omega)
    rw [Nat.zero_add, List.nil_append] at h4
    exact ⟨v', w', hr, h4, h5⟩

/-- The elements from j on with their new indents. -/
def setDown (E : Nat → El) (len : Nat) (o l : Int) (j : Nat) : Nat → El := fun t => if j ≤ t then { E t with indent := newInd E len o l t } else E t

theorem setDown_kind (E : Nat → El) (len : Nat) (o l : Int) (k j : Nat) : (setDown E len o l k j).kind = (E j).kind := by
  unfold setDown
  split <;> rfl

theorem setDown_skip {E : Nat → El} {len : Nat} {o l : Int} {k : Nat} (h : (E k).kind = 1) : setDown E len o l k = setDown E len o l (k + 1) := by
  funext j
  simp only [setDown]
  by_cases hj : k + 1 ≤ j
  · rw [if_pos (by omega), if_pos hj]
  · by_cases hk : j = k
    · subst hk
      rw [if_pos (by omega), if_neg (by omega)]
      unfold newInd
      rw [if_pos h]
    · rw [if_neg (by omega), if_neg (by omega)]

theorem setDown_store {E : Nat → El} {len : Nat} {o l : Int} {k : Nat} {x : Int} (h : newInd E len o l k = x) : setDown E len o l k = upd (setDown E len o l (k + 1)) k x := by
  funext j
  simp only [setDown, upd]
  by_cases hk : j = k
  · subst hk
    rw [if_pos (by omega), if_pos rfl, if_neg (by omega), h]
  · rw [if_neg hk]
    by_cases hj : k + 1 ≤ j
    · rw [if_pos hj, if_pos (by omega)]
    · rw [if_neg (by omega), if_neg (by omega)]

theorem upd_upd (E : Nat → El) (k : Nat) (x y : Int) : upd (upd E k x) k y = upd E k y := by
  funext j
  simp only [upd]
  by_cases hk : j = k
  · rw [if_pos hk, if_pos hk, if_pos hk]
  · rw [if_neg hk, if_neg hk, if_neg hk]

/-- The row of the copy. -/
def RowG (C : Nat → Value) (w : World) (B : Nat) (v : Value) (k : Nat) (E : Nat → El) : Prop := w.ownsRow B 28 4 v k (GE C E k)

theorem RowG.store {C : Nat → Value} {w : World} {B g len cap k : Nat} {E : Nat → El} (h : RowG C w B (.slice (some ⟨g, 0, none⟩) len cap) len E) (hk : k < len) (x : Int) :
    RowG C (w.setCell ⟨g, k * 4 + 2, none⟩ (.int .i64 x)) B (.slice (some ⟨g, 0, none⟩) len cap) len (upd E k x) := by
  obtain ⟨h1, -⟩ := World.ownsRow.stored h (k * 4 + 2) (.int .i64 x)
  rw [GE_set C E len k x hk] at h1
  exact h1

theorem RowG.cells {C : Nat → Value} {w : World} {B len g cap : Nat} {E : Nat → El} (h : RowG C w B (.slice (some ⟨g, 0, none⟩) len cap) len E) (j : Nat) (hj : j < len) :
    w.cell? ⟨g, j * 4, none⟩ = some (.int .i64 (E j).kind) ∧ w.cell? ⟨g, j * 4 + 1, none⟩ = some (.int .i64 (E j).blanks) ∧ w.cell? ⟨g, j * 4 + 2, none⟩ = some (.int .i64 (E j).indent) ∧ w.cell? ⟨g, j * 4 + 3, none⟩ = some (C j) ∧ w.frozen? ⟨g, j * 4 + 2, none⟩ = false := by
  have hc := fun i (hi : i < 4) => (World.ownsRow.cellAt h (j * 4 + i) (by omega)).trans (GE_get C E len j i hj hi)
  exact ⟨hc 0 (by omega), hc 1 (by omega), hc 2 (by omega), hc 3 (by omega), World.ownsRow.frozenAt h _⟩

theorem els_strs {w : World} {c : Option Addr} {len cap : Nat} {E : Nat → El} (h : ElsIn w c len cap E) {j : Nat} (hj : j < len) : StrsIn w (E j).ca (E j).cl (E j).cc (E j).S := by
  rcases h with ⟨-, h0, -⟩ | ⟨a, -, -, -, h3⟩
  · omega
  · exact (h3 j hj).2.2.2.2

theorem rowG_in {w : World} {B : Nat} {ao : Option Addr} {len cp : Nat} {E E' : Nat → El} (h : RowG (asIs E) w B (.slice ao len cp) len E') (hs : ∀ j, j < len → StrsIn w (E' j).ca (E' j).cl (E' j).cc (E' j).S) (hc : ∀ j, asIs E j = asIs E' j) : ElsIn w ao len cp E' := by
  rcases own_form h with ⟨h1, h2⟩ | ⟨g, cap', h1, hg1, hg2, hcap, hcm⟩
  · simp at h1
    exact .inl ⟨h1.1, h2, h1.2.2⟩
  · simp only [Value.slice.injEq, true_and] at h1
    obtain ⟨rfl, rfl⟩ := h1
    refine .inr ⟨_, rfl, hcap, hcm, fun i hi => ?_⟩
    obtain ⟨c0, c1, c2, c3, -⟩ := RowG.cells h i hi
    rw [hc i] at c3
    rw [add_head]
    exact ⟨c0, c1, c2, c3, hs i hi⟩

set_option maxRecDepth 100000 in
set_option maxHeartbeats 1600000 in
theorem specIndents_any (c : Option Addr) (len cap : Nat) (E : Nat → El) (w : World) (h : ElsIn w c len cap E) (hlen : len ≤ 100) (others last : Int) :
    Calls Try.prog 12 #[.slice c len cap, .int .i64 others, .int .i64 last] w fun e w' => ∃ c' cap' E', e = .returned (.slice c' len cap') ∧ ElsIn w' c' len cap' E' ∧ (∀ j, j < len → SameEl (setTo E len others last len j) (E' j)) ∧ Below w.heap.size w w' := by
  have H := Lib.hid h
  clear h
  have hrun := copyEls (h := w.heap.size) c len cap E (w.alloc (.cells #[] 28)) hlen (H.out.below (by go_grown)) (heap_alloc_new w _)
  have HR := Lib.hid hrun
  clear hrun
  go_enter Try.func12, Try.ntmps12
  go_wp2_with (at_builtin; refine wpList_append_run rfl (.tmp 10) (.tmp 11) 22 rfl HR.out ?_; rintro v1 w1 ⟨hown, hgrow⟩; obtain ⟨ao, cp, rfl⟩ := owns_slice hown; have HOWN := Lib.hid hown; have HG := Lib.hid hgrow; clear hown hgrow)
  have hb1 : Below w.heap.size w w1 := (Below.alloc (Below.refl _ _) (Nat.le_refl _) _).grown HG.out (by simp) (fun k hk => by cases hk; exact Nat.le_refl _)
  have hrow : RowG (asIs E) w1 w.heap.size (.slice ao len cp) len (setDown E len others last len) := by
    unfold RowG
    rw [GE_congr (E' := E) (fun j hj => by unfold setDown; rw [if_neg (by omega)])]
    exact HOWN.out
  have HROW := Lib.hid hrow
  have HMono := Lib.hid (fun i (h : i ≤ len) => cnt_mono E h)
  clear hrow HOWN HG HR
  go_loopw [8, 9] (fun f i ws => ∃ j : Nat, j ≤ len ∧ i = .int .i64 ((j : Int) - 1) ∧ f = .bool (decide (cnt E j = cnt E len)) ∧ RowG (asIs E) ws w.heap.size (.slice ao len cp) len (setDown E len others last j) ∧ Below w.heap.size w ws) (fun _ i _ => (intOf i + 1).toNat)
  case atStart => exact ⟨len, Nat.le_refl _, rfl, by simp, HROW.out, hb1⟩
  case round =>
    obtain ⟨j, hj, rfl, rfl, hrw, hbel⟩ := hrel
    have hsz := hbel.size
    have HRW := Lib.hid hrw
    clear hrw HROW
    cases j with
    | zero =>
      have he : (((0 : Nat) : Int) - 1) = -1 := by omega
      rw [he]
      clear he
      go_wp2
      go_ret
      refine ⟨ao, cp, setDown E len others last 0, rfl, rowG_in HRW.out (fun j hj => ?_) (fun j => ?_), fun j hj => ?_, by assumption⟩
      · have := (els_strs H.out hj).below hbel
        unfold setDown
        rw [if_pos (Nat.zero_le _)]
        exact this
      · unfold asIs setDown
        rw [if_pos (Nat.zero_le _)]
      · unfold setDown setTo
        rw [if_pos (Nat.zero_le _), if_pos hj]
        exact ⟨rfl, rfl, rfl, rfl, rfl⟩
    | succ t =>
      have he : (((t + 1 : Nat) : Int) - 1) = (t : Int) := by omega
      rw [he]
      clear he
      rcases own_form HRW.out with ⟨h1, h2⟩ | ⟨g, cap', h1, hg1, hg2, hcap, hcm⟩
      · omega
      simp only [Value.slice.injEq, true_and] at h1
      obtain ⟨rfl, rfl⟩ := h1
      have hadd : (⟨g, 0, none⟩ : Addr).add (t * 4) = ⟨g, t * 4, none⟩ := add_head _ _
      obtain ⟨c0, -, c2, -, f2⟩ := RowG.cells HRW.out t (by omega)
      rw [setDown_kind] at c0
      have hlt : t < len := by omega
      have hm1 := HMono.out (t + 1) hj
      by_cases hq : (E t).kind = 1
      · have HQ : Hid (cnt E (t + 1) = cnt E t) := Lib.hid (by show cnt E t + _ = _; rw [if_pos hq]; rfl)
        have HT := Lib.hid (setDown_skip (E := E) (len := len) (o := others) (l := last) hq)
        rw [hq] at c0
        clear c2 f2 hm1
        go_wp2
        go_roundw
        case rel => exact ⟨t, by omega, by go_num, by rw [HQ.out], by rw [HT.out]; exact HRW.out, by assumption⟩
        case measure => first | (simp [intOf]; done) | (simp [intOf]; omega)
      · have hq1 : cnt E (t + 1) = cnt E t + 1 := by show cnt E t + _ = _; rw [if_neg hq]
        rw [hq1] at hm1 ⊢
        by_cases hf : cnt E t + 1 = cnt E len
        · have HN : Hid (newInd E len others last t = last) := Lib.hid (by unfold newInd; rw [if_neg hq, hq1, if_neg (by omega)])
          have HT := Lib.hid (setDown_store HN.out)
          have HF : Hid (cnt E t ≠ cnt E len) := Lib.hid (by omega)
          clear hq1 hm1
          go_wp2
          go_roundw
          case rel => exact ⟨t, by omega, by go_num, by rw [decide_eq_false HF.out], by rw [HT.out]; have := RowG.store (RowG.store HRW.out hlt others) hlt last; rw [upd_upd] at this; exact this, by go_grown⟩
          case measure => first | (simp [intOf]; done) | (simp [intOf]; omega)
        · have HN : Hid (newInd E len others last t = others) := Lib.hid (by unfold newInd; rw [if_neg hq, hq1, if_pos (by omega)])
          have HT := Lib.hid (setDown_store HN.out)
          have HF : Hid (cnt E t ≠ cnt E len) := Lib.hid (by omega)
          clear hq1 hm1
          go_wp2
          go_roundw
          case rel => exact ⟨t, by omega, by go_num, by rw [decide_eq_false HF.out], by rw [HT.out]; exact RowG.store HRW.out hlt others, by go_grown⟩
          case measure => first | (simp [intOf]; done) | (simp [intOf]; omega)
end Go.Proofs.Ythdlekfnmabldaa.fnFodderIndents
