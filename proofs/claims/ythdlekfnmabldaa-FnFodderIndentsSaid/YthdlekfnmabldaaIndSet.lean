/-
  FnFodderIndents: the code that sets the indents.
-/
import Derived.Test.YthdlekfnmabldaaIndOut
import Derived.Laws.OwnMore
namespace Go.Proofs.Ythdlekfnmabldaa.fnFodderIndents
open Go.RowKit
set_option linter.unusedSimpArgs false

theorem FE_length (C : Nat → Value) (E : Nat → El) (k : Nat) : (FE C E k).length = k * 4 := by
  induction k with
  | zero => rfl
  | succ k ih =>
    unfold FE at *
    rw [List.range_succ, List.flatMap_append, List.length_append, ih]
    simp
    omega

theorem FE_get (C : Nat → Value) (E : Nat → El) : ∀ (k j i : Nat), j < k → i < 4 → (FE C E k)[j * 4 + i]? = [C j, .int .i64 (E j).kind, .int .i64 (E j).blanks, .int .i64 (E j).indent][i]?
  | 0, j, i, h, _ => absurd h (by omega)
  | k + 1, j, i, h, hi => by
    have hl := FE_length C E k
    have hs : FE C E (k + 1) = FE C E k ++ [C k, .int .i64 (E k).kind, .int .i64 (E k).blanks, .int .i64 (E k).indent] := by
      unfold FE
      rw [List.range_succ, List.flatMap_append]
      simp
    rw [hs]
    by_cases hj : j < k
    · rw [List.getElem?_append_left (by omega)]
      exact FE_get C E k j i hj hi
    · obtain rfl : j = k := by omega
      rw [List.getElem?_append_right (by omega)]
      congr 1
      omega

/-- How many of the first k elements end a line. -/
def cnt (E : Nat → El) : Nat → Nat
  | 0 => 0
  | k + 1 => cnt E k + if (E k).kind = 1 then 0 else 1

theorem cnt_le (E : Nat → El) (k : Nat) : cnt E k ≤ k := by
  induction k with
  | zero => exact Nat.le_refl _
  | succ k ih => unfold cnt; split <;> omega

theorem cnt_mono (E : Nat → El) {i j : Nat} (h : i ≤ j) : cnt E i ≤ cnt E j := by
  induction j with
  | zero => obtain rfl : i = 0 := by omega
            exact Nat.le_refl _
  | succ j ih =>
    by_cases hij : i ≤ j
    · have := ih hij
      show cnt E i ≤ cnt E j + _
      omega
    · obtain rfl : i = j + 1 := by omega
      exact Nat.le_refl _

/-- The indent that element j gets. -/
def newInd (E : Nat → El) (len : Nat) (o l : Int) (j : Nat) : Int := if (E j).kind = 1 then (E j).indent else if cnt E (j + 1) < cnt E len then o else l

/-- The elements, the first k of them with their new indents. -/
def setTo (E : Nat → El) (len : Nat) (o l : Int) (k : Nat) : Nat → El := fun j => if j < k then { E j with indent := newInd E len o l j } else E j

def upd (E : Nat → El) (k : Nat) (x : Int) : Nat → El := fun j => if j = k then { E j with indent := x } else E j

theorem setTo_skip {E : Nat → El} {len : Nat} {o l : Int} {k : Nat} (h : (E k).kind = 1) : setTo E len o l (k + 1) = setTo E len o l k := by
  funext j
  unfold setTo
  by_cases hj : j < k
  · rw [if_pos hj, if_pos (by omega)]
  · by_cases hk : j = k
    · subst hk
      rw [if_pos (by omega), if_neg (by omega)]
      unfold newInd
      rw [if_pos h]
    · rw [if_neg (by omega), if_neg (by omega)]

theorem setTo_store {E : Nat → El} {len : Nat} {o l : Int} {k : Nat} {x : Int} (h : newInd E len o l k = x) : setTo E len o l (k + 1) = upd (setTo E len o l k) k x := by
  funext j
  simp only [setTo, upd]
  by_cases hk : j = k
  · subst hk
    rw [if_pos (by omega), if_pos rfl, if_neg (by omega), h]
  · rw [if_neg hk]
    by_cases hj : j < k
    · rw [if_pos hj, if_pos (by omega)]
    · rw [if_neg (by omega), if_neg (by omega)]

theorem setTo_zero (E : Nat → El) (len : Nat) (o l : Int) : setTo E len o l 0 = E := by
  funext j
  unfold setTo
  rw [if_neg (by omega)]

theorem setTo_kind (E : Nat → El) (len : Nat) (o l : Int) (k j : Nat) : (setTo E len o l k j).kind = (E j).kind := by
  unfold setTo
  split <;> rfl

/-- The elements are there, their comments being C. -/
def MadeC (C : Nat → Value) (w : World) (B : Nat) (v : Value) (k : Nat) (E : Nat → El) : Prop :=
  w.ownsRow B 56 4 v k (FE C E k) ∧ ∀ j, j < k → w.ownsRow B 9 1 (C j) (E j).cl (strs (E j).S (E j).cl)

theorem FE_set (C : Nat → Value) (E : Nat → El) (len k : Nat) (x : Int) (hk : k < len) : (FE C E len).set (k * 4 + 3) (.int .i64 x) = FE C (upd E k x) len := by
  apply List.ext_getElem?
  intro n
  have hl := FE_length C E len
  have hl' := FE_length C (upd E k x) len
  by_cases hn : n < len * 4
  · have e : n = n / 4 * 4 + n % 4 := by omega
    have h1 := FE_get C E len (n / 4) (n % 4) (by omega) (by omega)
    have h2 := FE_get C (upd E k x) len (n / 4) (n % 4) (by omega) (by omega)
    rw [← e] at h1 h2
    rw [List.getElem?_set, h2]
    by_cases hq : k * 4 + 3 = n
    · rw [if_pos hq, if_pos (by omega)]
      have e1 : n / 4 = k := by omega
      have e2 : n % 4 = 3 := by omega
      rw [e1, e2]
      simp [upd]
    · rw [if_neg hq, h1]
      by_cases hj : n / 4 = k
      · have e2 : n % 4 < 3 := by omega
        have e3 : n % 4 = 0 ∨ n % 4 = 1 ∨ n % 4 = 2 := by omega
        rcases e3 with e3 | e3 | e3 <;> rw [e3, hj] <;> simp [upd]
      · simp [upd, hj]
  · rw [List.getElem?_eq_none (by rw [List.length_set]; omega), List.getElem?_eq_none (by omega)]

theorem MadeC.store {C : Nat → Value} {w : World} {B g len cap k : Nat} {E : Nat → El} (h : MadeC C w B (.slice (some ⟨g, 0, none⟩) len cap) len E) (hk : k < len) (x : Int) :
    MadeC C (w.setCell ⟨g, k * 4 + 3, none⟩ (.int .i64 x)) B (.slice (some ⟨g, 0, none⟩) len cap) len (upd E k x) ∧ w.grownBy (w.setCell ⟨g, k * 4 + 3, none⟩ (.int .i64 x)) (some g) := by
  obtain ⟨h1, h2⟩ := h.1.stored (k * 4 + 3) (.int .i64 x)
  rw [FE_set C E len k x hk] at h1
  refine ⟨⟨h1, fun j hj => ?_⟩, h2⟩
  have h3 := (h.2 j hj).kept h2 (own_ne (h.2 j hj) h.1 (by decide))
  unfold upd
  split <;> exact h3

theorem MadeC.alloc {C : Nat → Value} {w : World} {B len : Nat} {v : Value} {E : Nat → El} (h : MadeC C w B v len E) (o : Obj) : MadeC C (w.alloc o) B v len E :=
  ⟨h.1.alloc o, fun j hj => (h.2 j hj).alloc o⟩

/-- What the cells hold. -/
theorem MadeC.cells {C : Nat → Value} {w : World} {B len g cap : Nat} {E : Nat → El} (h : MadeC C w B (.slice (some ⟨g, 0, none⟩) len cap) len E) (j : Nat) (hj : j < len) :
    w.cell? ⟨g, j * 4, none⟩ = some (C j) ∧ w.cell? ⟨g, j * 4 + 1, none⟩ = some (.int .i64 (E j).kind) ∧ w.cell? ⟨g, j * 4 + 2, none⟩ = some (.int .i64 (E j).blanks) ∧ w.cell? ⟨g, j * 4 + 3, none⟩ = some (.int .i64 (E j).indent) ∧ w.frozen? ⟨g, j * 4 + 3, none⟩ = false := by
  have hc := fun i (hi : i < 4) => (h.1.cellAt (j * 4 + i) (by omega)).trans (FE_get C E len j i hj hi)
  exact ⟨hc 0 (by omega), hc 1 (by omega), hc 2 (by omega), hc 3 (by omega), h.1.frozenAt _⟩

theorem own_form {w : World} {B : Nat} {e : TypeId} {size n : Nat} {v : Value} {xs : List Value} (h : w.ownsRow B e size v n xs) : (v = .slice none 0 0 ∧ n = 0) ∨ ∃ g cap, v = .slice (some ⟨g, 0, none⟩) n cap ∧ B ≤ g ∧ g < w.heap.size ∧ n ≤ cap ∧ cap ≤ maxLen := by
  rcases h.2 with h1 | ⟨g, cap, cur, rfl, hb, hg, hn, hm, -⟩
  · exact .inl h1
  · exact .inr ⟨g, cap, rfl, hb, (Array.getElem?_eq_some_iff.1 hg).1, hn, hm⟩

set_option maxHeartbeats 1600000 in
theorem setIndents_any {C : Nat → Value} {B len : Nat} {v : Value} {E : Nat → El} (w : World) (hB : B ≤ w.heap.size) (hm : MadeC C w B v len E) (hlen : len ≤ 100) (p : Nat) (others last : Int) :
    Calls Try.prog 29 #[.pointer (some ⟨p, 0, none⟩), v, .int .i64 others, .int .i64 last] w fun e w' => e = .returned (.tuple #[]) ∧ MadeC C w' B v len (setTo E len others last len) ∧ Below B w w' := by
  rcases own_form hm.1 with ⟨rfl, rfl⟩ | ⟨g, cap, rfl, hg1, hg2, hcap, hcm⟩
  · have HM := Lib.hid hm
    clear hm
    go_enter Try.func29, Try.ntmps29
    go_wp2
    go_rounds 1
    go_rounds 1
    go_returns
    exact ⟨rfl, ⟨HM.out.1, fun j hj => absurd hj (by omega)⟩, by go_grown⟩
  · have HM := Lib.hid hm
    clear hm
    have HL := Lib.hid (cnt_le E)
    go_enter Try.func29, Try.ntmps29
    go_wp2
    go_loopw [8, 16] (fun n i wr => ∃ k : Nat, k ≤ len ∧ i = .int .i64 k ∧ n = .int .i64 (cnt E k : Nat) ∧ MadeC C wr B (.slice (some ⟨g, 0, none⟩) len cap) len E ∧ Below B w wr) (fun _ i _ => len - (intOf i).toNat)
    case atStart => exact ⟨0, Nat.zero_le _, rfl, rfl, HM.out, Below.refl _ _⟩
    case round =>
      obtain ⟨k, hk, rfl, rfl, hmr, hbel⟩ := hrel
      have hsz := hbel.size
      have hadd : (⟨g, 0, none⟩ : Addr).add (k * 4) = ⟨g, k * 4, none⟩ := by unfold Addr.add; split <;> simp_all
      have HR := Lib.hid hmr
      clear hmr
      have hck := HL.out k
      by_cases hlt : k < len
      · obtain ⟨c0, c1, c2, c3, -⟩ := HR.out.cells k hlt
        obtain ⟨ao, cp, hC⟩ := owns_slice (HR.out.2 k hlt)
        rw [hC] at c0
        clear hC
        by_cases hq : (E k).kind = 1
        · have HQ : Hid (cnt E (k + 1) = cnt E k) := Lib.hid (by show cnt E k + _ = _; rw [if_pos hq]; rfl)
          rw [hq] at c1
          go_wp2
          go_roundw
          case rel => exact ⟨k + 1, by omega, by go_num, by rw [HQ.out], HR.out.alloc _, by go_grown⟩
          case measure => simp [intOf]; omega
        · have HQ : Hid (cnt E (k + 1) = cnt E k + 1) := Lib.hid (by show cnt E k + _ = _; rw [if_neg hq])
          go_wp2
          go_roundw
          case rel => exact ⟨k + 1, by omega, by go_num, by rw [HQ.out]; go_num, HR.out.alloc _, by go_grown⟩
          case measure => simp [intOf]; omega
      · obtain rfl : k = len := by omega
        have hS : MadeC C wr B (.slice (some ⟨g, 0, none⟩) k cap) k (setTo E k others last 0) := by rw [setTo_zero]; exact HR.out
        have HS := Lib.hid hS
        have HMono := Lib.hid (fun i (h : i ≤ k) => cnt_mono E h)
        have hbr := hbel
        clear hS HR
        go_wp2
        go_loopw [11, 28] (fun n i ws => ∃ j : Nat, j ≤ k ∧ i = .int .i64 j ∧ n = .int .i64 (cnt E j : Nat) ∧ MadeC C ws B (.slice (some ⟨g, 0, none⟩) k cap) k (setTo E k others last j) ∧ Below B w ws) (fun _ i _ => k - (intOf i).toNat)
        case atStart => exact ⟨0, Nat.zero_le _, rfl, rfl, HS.out, hbr⟩
        case round =>
          obtain ⟨j, hj, rfl, rfl, hmr, hbel⟩ := hrel
          have hsz := hbel.size
          have hadd : (⟨g, 0, none⟩ : Addr).add (j * 4) = ⟨g, j * 4, none⟩ := by unfold Addr.add; split <;> simp_all
          have HR := Lib.hid hmr
          clear hmr
          have hcj := HL.out j
          by_cases hlt : j < k
          · obtain ⟨-, c1, -, c3, f3⟩ := HR.out.cells j hlt
            rw [setTo_kind] at c1
            have hmono := HMono.out (j + 1) (by omega)
            by_cases hq : (E j).kind = 1
            · have HQ : Hid (cnt E (j + 1) = cnt E j) := Lib.hid (by show cnt E j + _ = _; rw [if_pos hq]; rfl)
              have HT := Lib.hid (setTo_skip (E := E) (len := k) (o := others) (l := last) hq)
              rw [hq] at c1
              clear c3 f3 hmono
              go_wp2
              go_roundw
              case rel => exact ⟨j + 1, by omega, by go_num, by rw [HQ.out], by rw [HT.out]; exact HR.out, by assumption⟩
              case measure => simp [intOf]; omega
            · have hq1 : cnt E (j + 1) = cnt E j + 1 := by show cnt E j + _ = _; rw [if_neg hq]
              rw [hq1] at hmono
              have HQ := Lib.hid hq1
              by_cases hlast : cnt E j + 1 < cnt E k
              · have HN : Hid (newInd E k others last j = others) := Lib.hid (by unfold newInd; rw [if_neg hq, hq1, if_pos hlast])
                have HT := Lib.hid (setTo_store HN.out)
                clear hq1
                go_wp2
                go_roundw
                case rel => exact ⟨j + 1, by omega, by go_num, by rw [HQ.out]; go_num, by rw [HT.out]; exact (HR.out.store hlt others).1, by go_grown⟩
                case measure => simp [intOf]; omega
              · have HN : Hid (newInd E k others last j = last) := Lib.hid (by unfold newInd; rw [if_neg hq, hq1, if_neg hlast])
                have HT := Lib.hid (setTo_store HN.out)
                have hce : cnt E k = cnt E j + 1 := by omega
                clear hq1 hlast hmono
                rw [hce]
                go_wp2
                go_roundw
                case rel => exact ⟨j + 1, by omega, by go_num, by rw [HQ.out]; go_num, by rw [HT.out]; exact (HR.out.store hlt last).1, by go_grown⟩
                case measure => simp [intOf]; omega
          · obtain rfl : j = k := by omega
            go_wp2
            go_returns
            exact ⟨rfl, HR.out, by assumption⟩
end Go.Proofs.Ythdlekfnmabldaa.fnFodderIndents
