/-
  FnTextLengthAdded: the plain law: how many code points two texts have, one behind the other.
-/
import Derived.Laws.IdiomStrings
import Derived.Lib.ValidLaws
import Derived.Test.YtilpolbdofojoaaDoorRows
namespace Go.Proofs.YtilpolbdofojoaaDoor.fnTextLengthAdded
open Go Go.Lib
set_option linter.unusedSimpArgs false
set_option linter.unusedVariables false
set_option maxRecDepth 100000

theorem decodeN_more (n m b0 b1 b2 b3 c1 c2 c3 : Nat) (hnm : n ≤ m) (h1 : 1 < n → c1 = b1) (h2 : 2 < n → c2 = b2) (h3 : 3 < n → c3 = b3)
    (hv : ¬ ((decodeN n b0 b1 b2 b3).1 = 65533 ∧ (decodeN n b0 b1 b2 b3).2 = 1)) : decodeN m b0 c1 c2 c3 = decodeN n b0 b1 b2 b3 := by
  by_cases ha : b0 < 128
  · unfold decodeN
    rw [if_pos ha, if_pos ha]
  by_cases g1 : 1 < n ∧ b1 / 64 = 2
  · have e1 := h1 g1.1
    subst e1
    have g1' : 1 < m ∧ c1 / 64 = 2 := ⟨by omega, g1.2⟩
    by_cases k6 : b0 / 32 = 6
    · simp [decodeN, ha, k6, g1.1, g1.2, g1'.1]
    by_cases g2 : 2 < n ∧ b2 / 64 = 2
    · have e2 := h2 g2.1
      subst e2
      have g2' : 2 < m ∧ c2 / 64 = 2 := ⟨by omega, g2.2⟩
      by_cases k14 : b0 / 16 = 14
      · simp [decodeN, ha, k6, k14, g1.1, g1.2, g1'.1, g2.1, g2.2, g2'.1]
      by_cases g3 : 3 < n ∧ b3 / 64 = 2
      · have e3 := h3 g3.1
        subst e3
        have g3' : 3 < m ∧ c3 / 64 = 2 := ⟨by omega, g3.2⟩
        by_cases k30 : b0 / 8 = 30
        · simp [decodeN, ha, k6, k14, k30, g1.1, g1.2, g1'.1, g2.1, g2.2, g2'.1, g3.1, g3.2, g3'.1]
        · simp [decodeN, ha, k6, k14, k30]
      · exfalso
        apply hv
        unfold decodeN
        rw [if_neg ha, if_neg (fun h => k6 h.1), if_neg (fun h => k14 h.1), if_neg (fun h => g3 h.2.2.2)]
        exact ⟨rfl, rfl⟩
    · exfalso
      apply hv
      unfold decodeN
      rw [if_neg ha, if_neg (fun h => k6 h.1), if_neg (fun h => g2 h.2.2), if_neg (fun h => g2 h.2.2.1)]
      exact ⟨rfl, rfl⟩
  · exfalso
    apply hv
    unfold decodeN
    rw [if_neg ha, if_neg (fun h => g1 h.2), if_neg (fun h => g1 h.2.1), if_neg (fun h => g1 h.2.1)]
    exact ⟨rfl, rfl⟩

theorem getD_app (a b : List UInt8) (i : Nat) (h : i < a.length) : (a ++ b).getD i 0 = a.getD i 0 := by
  simp [List.getD_eq_getElem?_getD, List.getElem?_append_left h]

theorem decodeL_more (a b : List UInt8) (hne : a ≠ []) (hv : ¬ ((decodeL a).1 = 65533 ∧ (decodeL a).2 = 1)) : decodeL (a ++ b) = decodeL a := by
  have hl : 0 < a.length := List.length_pos_iff.2 hne
  rw [decodeL_N (a ++ b), decodeL_N a, getD_app a b 0 hl]
  rw [decodeL_N a] at hv
  exact decodeN_more _ _ _ _ _ _ _ _ _ (by simp) (fun h => by rw [getD_app a b 1 h]) (fun h => by rw [getD_app a b 2 h]) (fun h => by rw [getD_app a b 3 h]) hv

/-- How many code points. -/
def cnt : Nat → List UInt8 → Nat
  | 0, _ => 0
  | n + 1, l => if l = [] then 0 else cnt n (l.drop (decodeL l).2) + 1

theorem cnt_nil : ∀ n, cnt n [] = 0
  | 0 => rfl
  | _ + 1 => by simp [cnt]

theorem cnt_fuel : ∀ (n m : Nat) (l : List UInt8), l.length ≤ n → l.length ≤ m → cnt n l = cnt m l
  | 0, m, l, hn, _ => by
    have : l = [] := List.eq_nil_of_length_eq_zero (by omega)
    subst this
    rw [cnt_nil, cnt_nil]
  | n + 1, 0, l, _, hm => by
    have : l = [] := List.eq_nil_of_length_eq_zero (by omega)
    subst this
    rw [cnt_nil, cnt_nil]
  | n + 1, m + 1, l, hn, hm => by
    unfold cnt
    by_cases hne : l = []
    · simp [hne]
    · have hw := decodeL_width l
      have hl : 0 < l.length := List.length_pos_iff.2 hne
      rw [if_neg hne, if_neg hne, cnt_fuel n m (l.drop (decodeL l).2) (by rw [List.length_drop]; omega) (by rw [List.length_drop]; omega)]

/-- Of a list, with enough steps. -/
def count (l : List UInt8) : Nat := cnt l.length l

theorem count_step (l : List UInt8) (hne : l ≠ []) : count l = count (l.drop (decodeL l).2) + 1 := by
  have hl : 0 < l.length := List.length_pos_iff.2 hne
  have hw := decodeL_width l
  obtain ⟨n, hn⟩ : ∃ n, l.length = n + 1 := ⟨l.length - 1, by omega⟩
  unfold count
  rw [hn]
  show (if l = [] then 0 else _) = _
  rw [if_neg hne, cnt_fuel n (l.drop (decodeL l).2).length _ (by rw [List.length_drop]; omega) (Nat.le_refl _)]

theorem count_app : ∀ (n : Nat) (a b : List UInt8), a.length ≤ n → validD a = true → count (a ++ b) = count a + count b
  | 0, a, b, h, _ => by
    have : a = [] := List.eq_nil_of_length_eq_zero (by omega)
    subst this
    simp [count, cnt]
  | n + 1, a, b, h, hv => by
    by_cases hne : a = []
    · subst hne
      simp [count, cnt]
    have hw := decodeL_width a
    have hle := decodeL_le a hne
    rw [validD_step a hne] at hv
    split at hv
    · cases hv
    · rename_i hbad
      have hd := decodeL_more a b hne hbad
      rw [count_step (a ++ b) (by simp [hne]), hd, count_step a hne, List.drop_append_of_le_length hle, count_app n _ b (by rw [List.length_drop]; omega) hv]
      omega

theorem count_le (l : List UInt8) : ∀ n, cnt n l ≤ n := by
  intro n
  induction n generalizing l with
  | zero => exact Nat.le_refl _
  | succ n ih =>
    unfold cnt
    split
    · omega
    · have := ih (l.drop (decodeL l).2)
      omega

theorem count_zero (l : List UInt8) : count l = 0 ↔ l = [] := by
  constructor
  · intro h
    by_cases hne : l = []
    · exact hne
    · rw [count_step l hne] at h
      omega
  · rintro rfl
    rfl

/-- The code points that a conversion makes. -/
theorem size_runes (s : ByteArray) : ∀ (m i : Nat) (acc : Array Value), (Conv.runesFrom s m i acc).size = acc.size + cnt m (s.data.toList.drop i) := by
  intro m
  induction m with
  | zero => intro i acc; rfl
  | succ m ih =>
    intro i acc
    show (if i < s.size then _ else acc).size = acc.size + (if s.data.toList.drop i = [] then 0 else _)
    by_cases hi : i < s.size
    · have hne : s.data.toList.drop i ≠ [] := by
        intro h
        have := congrArg List.length h
        simp at this
        have h2 : s.size = s.data.size := rfl
        omega
      rw [if_pos hi, if_neg hne]
      show (Conv.runesFrom s m (i + (Utf8.decode s i).2) (acc.push _)).size = _
      rw [ih, decodeL_drop, List.drop_drop]
      simp
      omega
    · have hnil : s.data.toList.drop i = [] := List.drop_eq_nil_of_le (by simp; have h2 : s.size = s.data.size := rfl; omega)
      rw [if_neg hi, if_pos hnil]
      rfl

/-- How many code points a text has. -/
def points (s : ByteArray) : Nat := (Conv.runesFrom s s.size 0 #[]).size

theorem points_eq (s : ByteArray) : points s = count s.data.toList := by
  unfold points count
  rw [size_runes]
  simp

theorem points_app (a b : ByteArray) (h : validD a.data.toList = true) : points (a ++ b) = points a + points b := by
  rw [points_eq, points_eq, points_eq, ByteArray.data_append, Array.toList_append, count_app _ _ _ (Nat.le_refl _) h]

theorem points_le (s : ByteArray) : points s ≤ s.size := by
  rw [points_eq]
  have := count_le s.data.toList s.data.toList.length
  unfold count
  simpa using this

theorem points_zero (s : ByteArray) : points s = 0 ↔ s.size = 0 := by
  rw [points_eq, count_zero]
  constructor
  · intro h
    have := congrArg List.length h
    simpa using this
  · intro h
    apply List.eq_nil_of_length_eq_zero
    simpa using h
end Go.Proofs.YtilpolbdofojoaaDoor.fnTextLengthAdded
