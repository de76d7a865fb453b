/-
  The statements on fodder: what lies in memory, and the functions of the size tests and of the law's own tests.
-/
import Derived.Test.YthdlekfnmabldaaRows
import Derived.WalkKit
import Derived.WalkSpells
import Derived.WalkLawsBesides
import Derived.Below
import Derived.Lib.Hide
import Derived.Outline
import Derived.OpenShut
import Derived.Handy
import Derived.RegionTactic
import Derived.ChangeAlike
import Derived.Deep.RegionWith
import Derived.Deep.RegionHeld3
import Derived.Deep.QuietTactic
import Derived.BigQuiet
import Derived.Deep.Slices
import Derived.Deep.Strs
import Derived.Deep.Fields
import Derived.ChangeSame
namespace Go.Proofs.Ythdlekfnmabldaa
open Go.RowKit

/-- A Bool is handed back, of which this is known. -/
def IsB (p : Bool → Prop) (e : Ending) : Prop := ∃ r, e = .returned (.bool r) ∧ p r

theorem IsB.mono {p q : Bool → Prop} {e : Ending} (h : IsB p e) (f : ∀ r, p r → q r) : IsB q e := by
  obtain ⟨r, h1, h2⟩ := h
  exact ⟨r, h1, f r h2⟩

/-- A list of strings that lies in memory. -/
def StrsIn (w : World) (c : Option Addr) (len cap : Nat) (S : Nat → ByteArray) : Prop :=
  (c = none ∧ len = 0 ∧ cap = 0) ∨ ∃ a, c = some a ∧ len ≤ cap ∧ cap ≤ maxLen ∧ ∀ i, i < len → a.block < w.heap.size ∧ w.cell? (a.add i) = some (.string (S i))

theorem fits5_any (c : Option Addr) (len cap : Nat) (S : Nat → ByteArray) (w : World) (h : StrsIn w c len cap S) :
    Calls Try.prog 13 #[.slice c len cap] w fun e w' => IsB (fun _ => True) e ∧ w' = w := by
  rcases h with ⟨rfl, rfl, rfl⟩ | ⟨a, rfl, h1, h2, h3⟩
  · go_enter Try.func13, Try.ntmps13
    go_wp2
    go_rounds 1
    go_ret
    exact ⟨⟨true, rfl, trivial⟩, rfl⟩
  · by_cases hbig : (2147483647 : Int) < len
    · go_enter Try.func13, Try.ntmps13
      go_wp2
      go_ret
      exact ⟨⟨false, rfl, trivial⟩, rfl⟩
    · have HC : Hid _ := Lib.hid h3
      clear h3
      go_enter Try.func13, Try.ntmps13
      go_wp2
      go_loop [10] (fun i => ∃ k : Nat, k ≤ len ∧ i = .int .i64 k) (fun i => len - (intOf i).toNat)
      case atStart => exact ⟨0, Nat.zero_le _, rfl⟩
      case round =>
        obtain ⟨k, hk, rfl⟩ := hrel
        by_cases hlt : k < len
        · obtain ⟨hb, hcell⟩ := HC.out k hlt
          by_cases hs : (2147483647 : Int) < (S k).size
          · go_wp2
            go_ret
            exact ⟨⟨false, rfl, trivial⟩, rfl⟩
          · go_wp2
            go_round
            case rel => exact ⟨k + 1, by omega, by go_num⟩
            case measure => simp [intOf]; omega
        · go_wp2
          go_ret
          exact ⟨⟨true, rfl, trivial⟩, rfl⟩

/-- A list of the strings, in the memory of a later world. -/
theorem StrsIn.below {w w' : World} {c : Option Addr} {len cap : Nat} {S : Nat → ByteArray} (h : StrsIn w c len cap S) (hb : Below w.heap.size w w') : StrsIn w' c len cap S := by
  rcases h with h | ⟨a, rfl, h1, h2, h3⟩
  · exact .inl h
  · refine .inr ⟨a, rfl, h1, h2, fun i hi => ?_⟩
    obtain ⟨hs, hc⟩ := h3 i hi
    have := hb.size
    exact ⟨by omega, cell_later hb hc⟩

theorem fits8_any (k b i : Int) (ca : Option Addr) (cl cc : Nat) (S : Nat → ByteArray) (w : World) (h : StrsIn w ca cl cc S) :
    Calls Try.prog 17 #[.agg #[.int .i64 k, .int .i64 b, .int .i64 i, .slice ca cl cc]] w fun r w' => IsB (fun _ => True) r ∧ Below w.heap.size w w' := by
  have HS := Lib.hid h
  clear h
  go_enter Try.func17, Try.ntmps17
  go_wp2_with fail
  refine (fits5_any ca cl cc S _ (HS.out.below (by go_grown))).mono ?_
  rintro e w1 ⟨⟨r, rfl, -⟩, rfl⟩
  cases r <;> go_wp2 <;> go_ret
  · exact ⟨⟨_, rfl, trivial⟩, by go_grown⟩
  · exact ⟨⟨_, rfl, trivial⟩, by go_grown⟩

/-- What an element that the law looks at is known for. -/
def ElOk (k : Int) (cl : Nat) : Prop := 0 ≤ k ∧ k ≤ 2 ∧ cl ≤ 20

open Classical in
/-- Is an element as its kind says? -/
noncomputable def elB (k b i : Int) (cl : Nat) (S : Nat → ByteArray) : Bool :=
  decide (0 ≤ b ∧ b ≤ 1000 ∧ 0 ≤ i ∧ i ≤ 1000 ∧ cl ≤ 20 ∧ (∀ j, j < cl → (S j).size ≤ 200) ∧ (k = 0 ∧ cl ≤ 1 ∨ k = 1 ∧ cl = 1 ∧ b = 0 ∧ i = 0 ∨ k = 2 ∧ 0 < cl))

theorem elB_ok {k b i : Int} {cl : Nat} {S : Nat → ByteArray} (h : elB k b i cl S = true) : ElOk k cl := by
  have := of_decide_eq_true h
  exact ⟨by omega, by omega, by omega⟩

theorem ret_bool {x y : Bool} (h : y = x) : Ending.returned (.bool x) = Ending.returned (.bool y) := by rw [h]

set_option maxHeartbeats 1600000 in
theorem element_any (k b i : Int) (ca : Option Addr) (cl cc : Nat) (S : Nat → ByteArray) (w : World) (h : StrsIn w ca cl cc S) :
    Calls Try.prog 18 #[.agg #[.int .i64 k, .int .i64 b, .int .i64 i, .slice ca cl cc]] w fun r w' => r = .returned (.bool (elB k b i cl S)) ∧ Below w.heap.size w w' := by
  by_cases h1 : b < 0
  · have HF : Hid (elB k b i cl S = false) := Lib.hid (by unfold elB; simp only [decide_eq_false_iff_not]; omega)
    clear h
    go_enter Try.func18, Try.ntmps18
    go_wp2
    go_ret
    exact ⟨ret_bool HF.out, by go_grown⟩
  by_cases h2 : 1000 < b
  · have HF : Hid (elB k b i cl S = false) := Lib.hid (by unfold elB; simp only [decide_eq_false_iff_not]; omega)
    clear h
    go_enter Try.func18, Try.ntmps18
    go_wp2
    go_ret
    exact ⟨ret_bool HF.out, by go_grown⟩
  by_cases h3 : i < 0
  · have HF : Hid (elB k b i cl S = false) := Lib.hid (by unfold elB; simp only [decide_eq_false_iff_not]; omega)
    clear h
    go_enter Try.func18, Try.ntmps18
    go_wp2
    go_ret
    exact ⟨ret_bool HF.out, by go_grown⟩
  by_cases h4 : 1000 < i
  · have HF : Hid (elB k b i cl S = false) := Lib.hid (by unfold elB; simp only [decide_eq_false_iff_not]; omega)
    clear h
    go_enter Try.func18, Try.ntmps18
    go_wp2
    go_ret
    exact ⟨ret_bool HF.out, by go_grown⟩
  by_cases h5 : (20 : Int) < cl
  · have HF : Hid (elB k b i cl S = false) := Lib.hid (by unfold elB; simp only [decide_eq_false_iff_not]; omega)
    clear h
    go_enter Try.func18, Try.ntmps18
    go_wp2
    go_ret
    exact ⟨ret_bool HF.out, by go_grown⟩
  have HS := Lib.hid h
  clear h
  go_enter Try.func18, Try.ntmps18
  go_wp2
  go_loop [3] (fun i => ∃ k : Nat, k ≤ cl ∧ i = .int .i64 k ∧ Hid (∀ j, j < k → (S j).size ≤ 200)) (fun i => cl - (intOf i).toNat)
  case atStart => exact ⟨0, Nat.zero_le _, rfl, Lib.hid (fun j hj => absurd hj (by omega))⟩
  case round =>
    obtain ⟨j, hj, rfl, HL⟩ := hrel
    by_cases hlt : j < cl
    · rcases HS.out with ⟨-, h0, -⟩ | ⟨a, rfl, ha, hb, h6⟩
      · omega
      · obtain ⟨hab, hcell⟩ := h6 j hlt
        clear h6
        have hc2 : ∀ o, (w.alloc o).cell? (a.add j) = some (.string (S j)) := fun o => cell_later (Below.alloc (Below.refl _ _) (Nat.le_refl _) o) hcell
        by_cases hs : (200 : Int) < (S j).size
        · have HF : Hid (elB k b i cl S = false) := Lib.hid (by
            unfold elB
            simp only [decide_eq_false_iff_not]
            rintro ⟨-, -, -, -, -, hx, -⟩
            have := hx j hlt
            omega)
          go_wp2
          go_ret
          exact ⟨ret_bool HF.out, by go_grown⟩
        · have HL' : Hid (∀ i, i < j + 1 → (S i).size ≤ 200) := Lib.hid (fun i hi => by
            by_cases hij : i < j
            · exact HL.out i hij
            · obtain rfl : i = j := by omega
              omega)
          go_wp2
          go_round
          case rel => exact ⟨j + 1, by omega, by go_num, HL'⟩
          case measure => simp [intOf]; omega
    · have HB : Hid (elB k b i cl S = decide (k = 0 ∧ cl ≤ 1 ∨ k = 1 ∧ cl = 1 ∧ b = 0 ∧ i = 0 ∨ k = 2 ∧ 0 < cl)) := Lib.hid (by
        obtain rfl : j = cl := by omega
        unfold elB
        rw [decide_eq_decide]
        exact ⟨fun h => h.2.2.2.2.2.2, fun h => ⟨by omega, by omega, by omega, by omega, by omega, HL.out, h⟩⟩)
      by_cases k0 : k = 0
      · subst k0
        by_cases q : (cl : Int) ≤ 1
        all_goals
          go_wp2
          go_ret
          exact ⟨ret_bool (by first | (rw [HB.out, decide_eq_true_iff]; omega) | (rw [HB.out, decide_eq_false_iff_not]; omega) | (rw [HB.out]; simp; omega) | (rw [HB.out]; simp; done) | (rw [HB.out]; simp [q3] <;> omega) | (rw [HB.out, Bool.eq_iff_iff]; simp <;> omega)), by go_grown⟩
      · by_cases k1 : k = 1
        · subst k1
          by_cases q : (cl : Int) = 1
          · by_cases q2 : b = 0
            · subst q2
              by_cases q3 : i = 0
              · subst q3
                go_wp2
                go_ret
                exact ⟨ret_bool (by first | (rw [HB.out, decide_eq_true_iff]; omega) | (rw [HB.out, decide_eq_false_iff_not]; omega) | (rw [HB.out]; simp; omega) | (rw [HB.out]; simp; done) | (rw [HB.out]; simp [q3] <;> omega) | (rw [HB.out, Bool.eq_iff_iff]; simp <;> omega)), by go_grown⟩
              · go_wp2
                go_ret
                exact ⟨ret_bool (by first | (rw [HB.out, decide_eq_true_iff]; omega) | (rw [HB.out, decide_eq_false_iff_not]; omega) | (rw [HB.out]; simp; omega) | (rw [HB.out]; simp; done) | (rw [HB.out]; simp [q3] <;> omega) | (rw [HB.out, Bool.eq_iff_iff]; simp <;> omega)), by go_grown⟩
            · go_wp2
              go_ret
              exact ⟨ret_bool (by first | (rw [HB.out, decide_eq_true_iff]; omega) | (rw [HB.out, decide_eq_false_iff_not]; omega) | (rw [HB.out]; simp; omega) | (rw [HB.out]; simp; done) | (rw [HB.out]; simp [q3] <;> omega) | (rw [HB.out, Bool.eq_iff_iff]; simp <;> omega)), by go_grown⟩
          · go_wp2
            go_ret
            exact ⟨ret_bool (by first | (rw [HB.out, decide_eq_true_iff]; omega) | (rw [HB.out, decide_eq_false_iff_not]; omega) | (rw [HB.out]; simp; omega) | (rw [HB.out]; simp; done) | (rw [HB.out]; simp [q3] <;> omega) | (rw [HB.out, Bool.eq_iff_iff]; simp <;> omega)), by go_grown⟩
        · by_cases k2 : k = 2
          · subst k2
            by_cases q : (0 : Int) < cl
            all_goals
              go_wp2
              go_ret
              exact ⟨ret_bool (by first | (rw [HB.out, decide_eq_true_iff]; omega) | (rw [HB.out, decide_eq_false_iff_not]; omega) | (rw [HB.out]; simp; omega) | (rw [HB.out]; simp; done) | (rw [HB.out]; simp [q3] <;> omega) | (rw [HB.out, Bool.eq_iff_iff]; simp <;> omega)), by go_grown⟩
          · go_wp2
            go_ret
            exact ⟨ret_bool (by first | (rw [HB.out, decide_eq_true_iff]; omega) | (rw [HB.out, decide_eq_false_iff_not]; omega) | (rw [HB.out]; simp; omega) | (rw [HB.out]; simp; done) | (rw [HB.out]; simp [q3] <;> omega) | (rw [HB.out, Bool.eq_iff_iff]; simp <;> omega)), by go_grown⟩

/-- May an element follow another one, by their kinds? -/
def followsB (k k' : Int) : Bool := if k' = 0 then decide (k = 1) else if k' = 2 then !decide (k = 1) else true

theorem follows_any (k b i : Int) (c : Value) (k' b' i' : Int) (c' : Value) (w : World) :
    Calls Try.prog 19 #[.agg #[.int .i64 k, .int .i64 b, .int .i64 i, c], .agg #[.int .i64 k', .int .i64 b', .int .i64 i', c']] w fun r w' => r = .returned (.bool (followsB k k')) ∧ Below w.heap.size w w' := by
  by_cases k0 : k' = 0
  · subst k0
    by_cases k1 : k = 1
    all_goals
      go_enter Try.func19, Try.ntmps19
      go_wp2
      go_ret
      exact ⟨ret_bool (by simp [followsB, k1]), by go_grown⟩
  · by_cases k2 : k' = 2
    · subst k2
      by_cases k1 : k = 1
      all_goals
        go_enter Try.func19, Try.ntmps19
        go_wp2
        go_ret
        exact ⟨ret_bool (by simp [followsB, k1]), by go_grown⟩
    · have HF : Hid (followsB k k' = true) := Lib.hid (by simp [followsB, k0, k2])
      go_enter Try.func19, Try.ntmps19
      go_wp2
      go_ret
      exact ⟨ret_bool HF.out, by go_grown⟩
end Go.Proofs.Ythdlekfnmabldaa
