/-
  FnArguments: the law's own tests on names.
-/
import Derived.Test.YthdlekfnmabldaaStrs
namespace Go.Proofs.Ythdlekfnmabldaa.fnArguments
open Go.RowKit
set_option linter.unusedSimpArgs false
set_option linter.unusedVariables false

theorem letter_any (c : Int) (w : World) : Calls Try.prog 40 #[.int .u8 c] w fun e w' => IsB (fun _ => True) e ∧ Below w.heap.size w w' := by
  go_enter Try.func40, Try.ntmps40
  go_wp2
  all_goals
    go_ret
    exact ⟨⟨_, rfl, trivial⟩, by go_grown⟩

theorem digit_any (c : Int) (w : World) : Calls Try.prog 41 #[.int .u8 c] w fun e w' => IsB (fun _ => True) e ∧ Below w.heap.size w w' := by
  go_enter Try.func41, Try.ntmps41
  go_wp2
  all_goals
    go_ret
    exact ⟨⟨_, rfl, trivial⟩, by go_grown⟩

theorem toList_nil {s : ByteArray} (h : s.size = 0) : s.toList = [] := by
  unfold ByteArray.toList ByteArray.toList.loop
  simp [h]

set_option maxRecDepth 100000 in
theorem word_any (s : ByteArray) (hz : s.size ≤ 2147483647) (w : World) : Calls Try.prog 35 #[.string s] w fun e w' => IsB (fun _ => True) e ∧ Below w.heap.size w w' := by
  by_cases h0 : s.toList.isEmpty = true
  · go_enter Try.func35, Try.ntmps35
    go_wp2
    go_ret
    exact ⟨⟨_, rfl, trivial⟩, by go_grown⟩
  have hpos : 0 < s.size := Nat.pos_of_ne_zero (fun h => h0 (by rw [toList_nil h]; rfl))
  have h1 : s.toList.isEmpty = false := by simpa using h0
  clear h0
  go_enter Try.func35, Try.ntmps35
  go_wp2_with fail
  refine (letter_any _ _).mono ?_
  rintro e w1 ⟨⟨r, rfl, -⟩, hb1⟩
  cases r
  · go_wp2
    go_ret
    exact ⟨⟨_, rfl, trivial⟩, hb1⟩
  go_wp2_with fail
  go_loopw [3] (fun i wr => ∃ k : Nat, 1 ≤ k ∧ k ≤ s.size ∧ i = .int .i64 k ∧ Below w.heap.size w wr) (fun i _ => s.size - (intOf i).toNat)
  case atStart => exact ⟨1, Nat.le_refl _, hpos, rfl, hb1⟩
  case round =>
    obtain ⟨k, hk1, hk, rfl, hbel⟩ := hrel
    have hsz := hbel.size
    by_cases hlt : k < s.size
    · go_wp2_with fail
      refine (letter_any _ _).mono ?_
      rintro e w2 ⟨⟨r, rfl, -⟩, hb2⟩
      have hb3 := below_step (Nat.le_refl _) hbel hb2
      cases r
      · go_wp2_with fail
        refine (digit_any _ _).mono ?_
        rintro e w3 ⟨⟨r, rfl, -⟩, hb4⟩
        have hb5 := below_step (Nat.le_refl _) hb3 hb4
        cases r
        · go_wp2
          go_ret
          exact ⟨⟨_, rfl, trivial⟩, hb5⟩
        · go_wp2
          go_roundw
          case rel => exact ⟨k + 1, by omega, by omega, by go_num, hb5⟩
          case measure => first | (simp [intOf]; done) | (simp [intOf]; omega)
      · go_wp2
        go_roundw
        case rel => exact ⟨k + 1, by omega, by omega, by go_num, hb3⟩
        case measure => first | (simp [intOf]; done) | (simp [intOf]; omega)
    · go_wp2
      go_ret
      exact ⟨⟨_, rfl, trivial⟩, hbel⟩

/-- Is a value a string? -/
def isStr : Value → Bool
  | .string _ => true
  | _ => false

theorem all_str (w : World) (C : Array Value) (t : TypeId) (h : C.toList.all isStr = true) (j : Nat) (hj : j < C.size) : ∃ s, (w.alloc (.cells C t)).cell? ⟨w.heap.size, j, none⟩ = some (.string s) := by
  rw [World.cell?_alloc_mark, Array.getElem?_eq_getElem hj]
  have := List.all_eq_true.1 h C[j] (by simp)
  cases hv : C[j] <;> rw [hv] at this <;> first | exact ⟨_, rfl⟩ | cases this

set_option maxRecDepth 100000 in
theorem keyword_any (s : ByteArray) (w : World) : Calls Try.prog 36 #[.string s] w fun e w' => IsB (fun _ => True) e ∧ Below w.heap.size w w' := by
  go_enter Try.func36, Try.ntmps36
  go_wp2_with fail
  go_loopw [4] (fun i wr => ∃ k : Nat, k ≤ 18 ∧ i = .int .i64 k ∧ Below w.heap.size w wr ∧ Hid (∀ j, j < 18 → ∃ t, wr.cell? ⟨w.heap.size, j, none⟩ = some (.string t))) (fun i _ => 18 - (intOf i).toNat)
  case atStart => exact ⟨0, by omega, rfl, by go_grown, Lib.hid (fun j hj => all_str w _ _ rfl j hj)⟩
  case round =>
    obtain ⟨k, hk, rfl, hbel, HC⟩ := hrel
    by_cases hlt : k < 18
    · obtain ⟨t, ht⟩ := HC.out k hlt
      cases hts : (t.toList == s.toList)
      · go_wp2
        go_roundw
        case rel => exact ⟨k + 1, by omega, by go_num, hbel, HC⟩
        case measure => first | (simp [intOf]; done) | (simp [intOf]; omega)
      · go_wp2
        go_ret
        exact ⟨⟨_, rfl, trivial⟩, hbel⟩
    · go_wp2
      go_ret
      exact ⟨⟨_, rfl, trivial⟩, hbel⟩

set_option maxRecDepth 100000 in
theorem identifier_any (s : ByteArray) (hz : s.size ≤ 2147483647) (w : World) : Calls Try.prog 30 #[.string s] w fun e w' => IsB (fun _ => True) e ∧ Below w.heap.size w w' := by
  go_enter Try.func30, Try.ntmps30
  go_wp2_with fail
  refine (word_any s hz _).mono ?_
  rintro e w1 ⟨⟨r, rfl, -⟩, hb1⟩
  cases r
  · go_wp2
    go_ret
    exact ⟨⟨_, rfl, trivial⟩, hb1⟩
  go_wp2_with fail
  refine (keyword_any s _).mono ?_
  rintro e w2 ⟨⟨r, rfl, -⟩, hb2⟩
  have hb3 := below_step (Nat.le_refl _) hb1 hb2
  cases r
  · go_wp2
    go_ret
    exact ⟨⟨_, rfl, trivial⟩, hb3⟩
  · go_wp2
    go_ret
    exact ⟨⟨_, rfl, trivial⟩, hb3⟩

/-- Names that the law looks at. -/
structure Names (len : Nat) (S : Nat → ByteArray) : Prop where
  few : len ≤ 100
  short : ∀ i, i < len → (S i).size ≤ 100
  apart : ∀ i, i < len → ∀ k, k < i → S k ≠ S i

theorem Names.inj {len : Nat} {S : Nat → ByteArray} (h : Names len S) {i j : Nat} (hi : i < len) (hj : j < len) (e : S i = S j) : i = j := by
  rcases Nat.lt_trichotomy i j with h1 | h1 | h1
  · exact absurd e (h.apart j hj i h1)
  · exact h1
  · exact absurd e.symm (h.apart i hi j h1)

theorem apart_any (c : Option Addr) (len cap : Nat) (S : Nat → ByteArray) (w : World) (h : StrsIn w c len cap S) :
    Calls Try.prog 26 #[.slice c len cap] w fun e w' => IsB (fun b => b = true → Names len S) e ∧ Below w.heap.size w w' := by
  by_cases hl : (100 : Int) < len
  · go_enter Try.func26, Try.ntmps26
    go_wp2
    go_ret
    exact ⟨⟨_, rfl, fun h => by cases h⟩, by go_grown⟩
  have H := Lib.hid h
  clear h
  go_enter Try.func26, Try.ntmps26
  go_wp2_with fail
  go_loopw [3] (fun i wr => ∃ k : Nat, k ≤ len ∧ i = .int .i64 k ∧ Below w.heap.size w wr ∧ Hid (∀ j, j < k → (S j).size ≤ 100 ∧ ∀ m, m < j → S m ≠ S j)) (fun i _ => len - (intOf i).toNat)
  case atStart => exact ⟨0, Nat.zero_le _, rfl, by go_grown, Lib.hid (fun j hj => absurd hj (by omega))⟩
  case round =>
    obtain ⟨k, hk, rfl, hbel, HP⟩ := hrel
    have hsz := hbel.size
    by_cases hlt : k < len
    · rcases H.out with ⟨-, h0, -⟩ | ⟨a, rfl, h1, h2, h3⟩
      · omega
      have HC := Lib.hid h3
      clear h3
      have hcell := cell_later hbel (HC.out k hlt).2
      by_cases hs : (100 : Int) < (S k).size
      · go_wp2
        go_ret
        exact ⟨⟨_, rfl, fun h => by cases h⟩, hbel⟩
      go_wp2_with fail
      refine (identifier_any (S k) (by omega) _).mono ?_
      rintro e w1 ⟨⟨r, rfl, -⟩, hb1⟩
      have hb2 := below_step (Nat.le_refl _) hbel hb1
      cases r
      · go_wp2
        go_ret
        exact ⟨⟨_, rfl, fun h => by cases h⟩, hb2⟩
      go_wp2_with fail
      go_loopw [4] (fun m wi => ∃ j : Nat, j ≤ k ∧ m = .int .i64 j ∧ Below w.heap.size w wi ∧ Hid (∀ m, m < j → S m ≠ S k)) (fun m _ => k - (intOf m).toNat)
      case atStart => exact ⟨0, Nat.zero_le _, rfl, hb2, Lib.hid (fun j hj => absurd hj (by omega))⟩
      case round =>
        obtain ⟨j, hj, rfl, hbi, HQ⟩ := hrel
        by_cases hlj : j < k
        · have c1 := cell_later hbi (HC.out k hlt).2
          have c2 := cell_later hbi (HC.out j (by omega)).2
          have c1' := fun o => cell_later (Below.alloc (Below.refl _ _) (Nat.le_refl _) o) c1
          by_cases hne : S j = S k
          · have he := seq_true hne
            go_wp2
            go_region
            all_goals go_wp2
            go_ret
            exact ⟨⟨_, rfl, fun h => by cases h⟩, by go_grown⟩
          · have HQ' : Hid (∀ m, m < j + 1 → S m ≠ S k) := Lib.hid (fun m hm => by
              by_cases hmj : m = j
              · subst hmj; exact hne
              · exact HQ.out m (by omega))
            have he := seq_false hne
            clear hne
            go_wp2
            go_region
            go_wp2
            go_roundw
            case rel => exact ⟨j + 1, by omega, by go_num, by go_grown, HQ'⟩
            case measure => first | (simp [intOf]; done) | (simp [intOf]; omega)
        · obtain rfl : j = k := by omega
          have HP' : Hid (∀ m, m < j + 1 → (S m).size ≤ 100 ∧ ∀ q, q < m → S q ≠ S m) := Lib.hid (fun m hm => by
            by_cases hmj : m = j
            · subst hmj; exact ⟨by omega, HQ.out⟩
            · exact HP.out m (by omega))
          go_wp2
          go_roundw
          case rel => exact ⟨j + 1, by omega, by go_num, hbi, HP'⟩
          case measure => first | (simp [intOf]; done) | (simp [intOf]; omega)
    · obtain rfl : k = len := by omega
      go_wp2
      go_ret
      exact ⟨⟨_, rfl, fun _ => ⟨by omega, fun i hi => (HP.out i hi).1, fun i hi k hk => (HP.out i hi).2 k hk⟩⟩, hbel⟩
end Go.Proofs.Ythdlekfnmabldaa.fnArguments
