/-
  FnLinesStripped: what the specification's stripping computes.
-/
import Derived.Test.YthdlekfnmabldaaDoorStripText
import Derived.Test.YthdlekfnmabldaaDoorOwn
import Derived.Test.YthdlekfnmabldaaDoorEncPoint
namespace Go.Proofs.YthdlekfnmabldaaDoor.fnLinesStripped
open Go.RowKit Go.Proofs.YthdlekfnmabldaaDoor.fnEncodeExact
set_option linter.unusedSimpArgs false
set_option linter.unusedVariables false

theorem blank_any (c : Int) (w : World) : Calls Tryd.prog 10 #[.int .u8 c] w fun e w' => e = .returned (.bool (c == 32 || c == 9 || c == 13)) ∧ w = w' := by
  by_cases h1 : c = 32
  · subst h1
    go_enter Tryd.func10, Tryd.ntmps10
    go_wp2
    go_ret
    exact ⟨rfl, rfl⟩
  by_cases h2 : c = 9
  · subst h2
    go_enter Tryd.func10, Tryd.ntmps10
    go_wp2
    go_ret
    exact ⟨rfl, rfl⟩
  by_cases h3 : c = 13
  · subst h3
    go_enter Tryd.func10, Tryd.ntmps10
    go_wp2
    go_ret
    exact ⟨rfl, rfl⟩
  go_enter Tryd.func10, Tryd.ntmps10
  go_wp2
  go_ret
  exact ⟨rfl, rfl⟩

theorem horiz_any (c : Int) (w : World) : Calls Tryd.prog 17 #[.int .i32 c] w fun e w' => e = .returned (.bool (c == 32 || c == 9 || c == 13)) ∧ w = w' := by
  by_cases h1 : c = 32
  · subst h1
    go_enter Tryd.func17, Tryd.ntmps17
    go_wp2
    go_ret
    exact ⟨rfl, rfl⟩
  by_cases h2 : c = 9
  · subst h2
    go_enter Tryd.func17, Tryd.ntmps17
    go_wp2
    go_ret
    exact ⟨rfl, rfl⟩
  by_cases h3 : c = 13
  · subst h3
    go_enter Tryd.func17, Tryd.ntmps17
    go_wp2
    go_ret
    exact ⟨rfl, rfl⟩
  go_enter Tryd.func17, Tryd.ntmps17
  go_wp2
  go_ret
  exact ⟨rfl, rfl⟩

theorem ws_int (n : Nat) : ((n : Int) == 32 || (n : Int) == 9 || (n : Int) == 13) = ws n := by
  unfold ws
  rw [Bool.eq_iff_iff]
  simp
  omega

/-- What is left behind the loop from the end. -/
theorem chop_take {α : Type} (p : α → Bool) : ∀ (l : List α) (to : Nat), to ≤ l.length → (∀ (j : Nat) (hj : j < l.length), to ≤ j → p l[j] = true) → (∀ (h : 0 < to) (h2 : to - 1 < l.length), p l[to - 1] = false) → chop p l = l.take to
  | [], to, _, _, _ => by simp [chop]
  | x :: l, 0, h1, h2, h3 => by
    rw [chop_cons, chop_take p l 0 (Nat.zero_le _) (fun j hj _ => by have := h2 (j + 1) (by simp; omega) (by omega); simpa using this) (fun h => by omega)]
    have := h2 0 (by simp) (by omega)
    simp at this
    simp [this]
  | x :: l, to + 1, h1, h2, h3 => by
    have ih := chop_take p l to (by simpa using h1) (fun j hj hto => by have := h2 (j + 1) (by simp; omega) (by omega); simpa using this) (fun h hl => by
      have := h3 (by omega) (by simp at h1 ⊢; omega)
      obtain ⟨q, rfl⟩ : ∃ q, to = q + 1 := ⟨to - 1, by omega⟩
      simpa using this)
    rw [chop_cons, ih, List.take_succ_cons]
    by_cases ht : to = 0
    · subst ht
      have := h3 (by omega) (by simp)
      simp at this
      simp [this]
    · have hne : l.take to ≠ [] := by
        intro h
        have h5 : (l.take to).length = 0 := by rw [h]; rfl
        rw [List.length_take] at h5
        simp at h1
        omega
      rw [if_neg (fun h => hne h.1)]

/-- What the loop from the front counts. -/
theorem lead_eq {α : Type} (p : α → Bool) : ∀ (m from_ : Nat) (l : List α), from_ ≤ m → from_ ≤ l.length → (∀ (j : Nat) (hj : j < l.length), j < from_ → p l[j] = true) → (from_ = m ∨ from_ = l.length ∨ ∃ h : from_ < l.length, p l[from_] = false) → lead p m l = from_
  | 0, f, l, h1, _, _, _ => by cases l <;> simp [lead] <;> omega
  | m + 1, f, [], h1, h2, h3, h4 => by simp at h2; simp [lead, h2]
  | m + 1, 0, x :: l, h1, h2, h3, h4 => by
    rcases h4 with h | h | ⟨_, h⟩
    · omega
    · simp at h
    · simp at h
      simp [lead, h]
  | m + 1, f + 1, x :: l, h1, h2, h3, h4 => by
    have hx := h3 0 (by simp) (by omega)
    simp at hx
    have ih := lead_eq p m f l (by omega) (by simpa using h2) (fun j hj hf => by have := h3 (j + 1) (by simp; omega) (by omega); simpa using this) (by
      rcases h4 with h | h | ⟨h5, h⟩
      · exact .inl (by omega)
      · exact .inr (.inl (by simpa using h))
      · exact .inr (.inr ⟨by simpa using h5, by simpa using h⟩))
    simp [lead, hx, ih]

theorem ext_eq (s : ByteArray) (f k : Nat) : s.extract f k = ⟨((s.data.toList.take k).drop f).toArray⟩ := by
  apply ByteArray.ext
  apply Array.toList_inj.1
  simp [List.drop_take]

theorem end_back (s : ByteArray) {k f m : Nat} (hk : k ≤ s.size) (hf : f ≤ k) (hch : chop wsb s.data.toList = s.data.toList.take k) (hfm : f ≤ m) (hq : ∀ (j : Nat) (hj : j < s.data.toList.length), j < f → wsb s.data.toList[j] = true)
    (he : f = m ∨ f = k ∨ ∃ h : f < k, wsb (s.data.toList[f]'(by simp; have h2 : s.size = s.data.size := rfl; omega)) = false) : s.extract f k = ⟨(back wsb m s.data.toList).toArray⟩ := by
  have hlen : (s.data.toList.take k).length = k := by rw [List.length_take]; simp; have h2 : s.size = s.data.size := rfl; omega
  unfold back
  rw [hch, lead_eq wsb m f (s.data.toList.take k) hfm (by omega) (fun j hj hjf => by rw [List.getElem_take]; exact hq j (by rw [hlen] at hj; simp; have h2 : s.size = s.data.size := rfl; omega) hjf) (by
    rcases he with h | h | ⟨h, h3⟩
    · exact .inl h
    · exact .inr (.inl (by omega))
    · exact .inr (.inr ⟨by omega, by rw [List.getElem_take]; exact h3⟩)), ext_eq]

theorem ret_str {x y : ByteArray} (h : x = y) : Ending.returned (.string x) = Ending.returned (.string y) := by rw [h]

set_option maxRecDepth 100000 in
theorem space_any (s : ByteArray) (hz : s.size ≤ 4000) (m : Nat) (hm : m ≤ 1000) (w : World) :
    Calls Tryd.prog 7 #[.string s, .int .i64 m] w fun e w' => e = .returned (.string ⟨(back wsb m s.data.toList).toArray⟩) ∧ w = w' := by
  go_enter Tryd.func7, Tryd.ntmps7
  go_wp2_with fail
  go_loop [5] (fun i => ∃ k : Nat, k ≤ s.size ∧ i = .int .i64 k ∧ Hid (∀ (j : Nat) (hj : j < s.data.toList.length), k ≤ j → wsb s.data.toList[j] = true)) (fun i => (intOf i).toNat)
  case atStart => exact ⟨s.size, Nat.le_refl _, rfl, Lib.hid (fun j hj hs => by simp at hj; have h2 : s.size = s.data.size := rfl; omega)⟩
  case round =>
    obtain ⟨k, hk, rfl, HP⟩ := hrel
    by_cases hk0 : 0 < k
    · have hlt : k - 1 < s.size := by omega
      have hb := byte_lt s (k - 1) hlt
      have hbyte : wsb (s.data.toList[k - 1]'(by simpa using hlt)) = ws s[k - 1].toNat := by
        unfold wsb
        congr 2
      generalize hc : s[k - 1].toNat = c at hb hbyte
      have hcw : wrap64 (c : Int) = c := by go_arith
      have hk1 : (1 : Int) ≤ k := by omega
      have hk2 : (0 : Int) < k := by omega
      have hk3 : ((k : Int) - 1).toNat = k - 1 := by omega
      have hk4 : (k : Int) - 1 = ((k - 1 : Nat) : Int) := by omega
      rw [← ws_int] at hbyte
      go_wp2_with fail
      refine (blank_any _ _).mono ?_
      rintro e w1 ⟨rfl, rfl⟩
      cases hbb : ((c : Int) == 32 || (c : Int) == 9 || (c : Int) == 13)
      · rw [hbb] at hbyte
        have HEND : Hid (∀ (h : 0 < k) (h2 : k - 1 < s.data.toList.length), wsb s.data.toList[k - 1] = false) := Lib.hid (fun _ _ => hbyte)
        clear hbyte hbb hc hk4 hk3
        have hch := chop_take wsb s.data.toList k (by simpa using hk) (fun j hj hk2 => HP.out j hj hk2) HEND.out
        have HCH := Lib.hid hch
        clear hch HEND
        go_wp2_with fail
        go_loop [6] (fun i => ∃ f : Nat, f ≤ k ∧ f ≤ m ∧ i = .int .i64 f ∧ Hid (∀ (j : Nat) (hj : j < s.data.toList.length), j < f → wsb s.data.toList[j] = true)) (fun i => k - (intOf i).toNat)
        case atStart => exact ⟨0, Nat.zero_le _, Nat.zero_le _, rfl, Lib.hid (fun j hj hf => absurd hf (by omega))⟩
        case round =>
          obtain ⟨f, hf, hfm, rfl, HQ⟩ := hrel
          by_cases hfk : f < k
          · by_cases hfm2 : f < m
            · have hltf : f < s.size := by omega
              have hbf := byte_lt s f hltf
              have hbytef : wsb (s.data.toList[f]'(by simpa using hltf)) = ws s[f].toNat := by
                unfold wsb
                congr 2
              generalize hcf : s[f].toNat = cf at hbf hbytef
              rw [← ws_int] at hbytef
              go_wp2_with fail
              refine (blank_any _ _).mono ?_
              rintro e w1 ⟨rfl, rfl⟩
              cases hbb : ((cf : Int) == 32 || (cf : Int) == 9 || (cf : Int) == 13)
              · rw [hbb] at hbytef
                have HE := Lib.hid (end_back s hk hf HCH.out hfm (fun j hj hjf => HQ.out j hj hjf) (.inr (.inr ⟨hfk, by simpa using hbytef⟩)))
                go_wp2
                go_ret
                exact ⟨ret_str HE.out, rfl⟩
              · rw [hbb] at hbytef
                have HQ' : Hid (∀ (j : Nat) (hj : j < s.data.toList.length), j < f + 1 → wsb s.data.toList[j] = true) := Lib.hid (fun j hj hjf => by
                  by_cases hjf2 : j = f
                  · subst hjf2; exact hbytef
                  · exact HQ.out j hj (by omega))
                go_wp2
                go_round
                case rel => exact ⟨f + 1, by omega, by omega, by go_num, HQ'⟩
                case measure => first | (simp [intOf]; done) | (simp [intOf]; omega)
            · have HE := Lib.hid (end_back s hk hf HCH.out hfm (fun j hj hjf => HQ.out j hj hjf) (.inl (by omega)))
              go_wp2
              go_ret
              exact ⟨ret_str HE.out, rfl⟩
          · have HE := Lib.hid (end_back s hk hf HCH.out hfm (fun j hj hjf => HQ.out j hj hjf) (.inr (.inl (by omega))))
            go_wp2
            go_ret
            exact ⟨ret_str HE.out, rfl⟩
      · rw [hbb] at hbyte
        have HP' : Hid (∀ (j : Nat) (hj : j < s.data.toList.length), k - 1 ≤ j → wsb s.data.toList[j] = true) := Lib.hid (fun j hj hjk => by
          by_cases hjk2 : j = k - 1
          · subst hjk2; exact hbyte
          · exact HP.out j hj (by omega))
        go_wp2
        go_round
        case rel => exact ⟨k - 1, by omega, by first | rfl | (rw [hk4]) | go_num, HP'⟩
        case measure => first | (simp [intOf]; done) | (simp [intOf]; omega)
    · have HEND : Hid (∀ (h : 0 < k) (h2 : k - 1 < s.data.toList.length), wsb s.data.toList[k - 1] = false) := Lib.hid (fun h => by omega)
      have hch := chop_take wsb s.data.toList k (by simpa using hk) (fun j hj hk2 => HP.out j hj hk2) HEND.out
      have HCH := Lib.hid hch
      clear hch HEND
      go_wp2_with fail
      go_loop [6] (fun i => ∃ f : Nat, f ≤ k ∧ f ≤ m ∧ i = .int .i64 f ∧ Hid (∀ (j : Nat) (hj : j < s.data.toList.length), j < f → wsb s.data.toList[j] = true)) (fun i => k - (intOf i).toNat)
      case atStart => exact ⟨0, Nat.zero_le _, Nat.zero_le _, rfl, Lib.hid (fun j hj hf => absurd hf (by omega))⟩
      case round =>
        obtain ⟨f, hf, hfm, rfl, HQ⟩ := hrel
        by_cases hfk : f < k
        · by_cases hfm2 : f < m
          · have hltf : f < s.size := by omega
            have hbf := byte_lt s f hltf
            have hbytef : wsb (s.data.toList[f]'(by simpa using hltf)) = ws s[f].toNat := by
              unfold wsb
              congr 2
            generalize hcf : s[f].toNat = cf at hbf hbytef
            rw [← ws_int] at hbytef
            go_wp2_with fail
            refine (blank_any _ _).mono ?_
            rintro e w1 ⟨rfl, rfl⟩
            cases hbb : ((cf : Int) == 32 || (cf : Int) == 9 || (cf : Int) == 13)
            · rw [hbb] at hbytef
              have HE := Lib.hid (end_back s hk hf HCH.out hfm (fun j hj hjf => HQ.out j hj hjf) (.inr (.inr ⟨hfk, by simpa using hbytef⟩)))
              go_wp2
              go_ret
              exact ⟨ret_str HE.out, rfl⟩
            · rw [hbb] at hbytef
              have HQ' : Hid (∀ (j : Nat) (hj : j < s.data.toList.length), j < f + 1 → wsb s.data.toList[j] = true) := Lib.hid (fun j hj hjf => by
                by_cases hjf2 : j = f
                · subst hjf2; exact hbytef
                · exact HQ.out j hj (by omega))
              go_wp2
              go_round
              case rel => exact ⟨f + 1, by omega, by omega, by go_num, HQ'⟩
              case measure => first | (simp [intOf]; done) | (simp [intOf]; omega)
          · have HE := Lib.hid (end_back s hk hf HCH.out hfm (fun j hj hjf => HQ.out j hj hjf) (.inl (by omega)))
            go_wp2
            go_ret
            exact ⟨ret_str HE.out, rfl⟩
        · have HE := Lib.hid (end_back s hk hf HCH.out hfm (fun j hj hjf => HQ.out j hj hjf) (.inr (.inl (by omega))))
          go_wp2
          go_ret
          exact ⟨ret_str HE.out, rfl⟩
end Go.Proofs.YthdlekfnmabldaaDoor.fnLinesStripped
