/-
  FnDirect: the recogniser: specifications, arguments, comprehensions of objects.
-/
import Derived.Test.YtkpfbgeaodopoaaDirRecD
namespace Go.Proofs.Ytkpfbgeaodopoaa.fnDirect
open Go.RowKit
set_option linter.unusedSimpArgs false
set_option linter.unusedVariables false

theorem NumsIn.cons {w : World} {v : Value} {k : Nat} {l : List Nat} (h : NumsIn w v (k :: l)) : ∃ g o cap, v = .slice (some ⟨g, o, none⟩) (l.length + 1) cap ∧ l.length + 1 ≤ cap ∧ cap ≤ maxLen ∧ w.cell? ⟨g, o, none⟩ = some (.int .i64 k) ∧ NumsIn w (.slice (some ⟨g, o + 1, none⟩) l.length (cap - 1)) l := by
  obtain ⟨ao, cap, h1, h2, h3, h4⟩ := h
  rcases h4 with h4 | ⟨g, o, rfl, h7⟩
  · cases h4
  · refine ⟨g, o, cap, h1, h2, h3, h7 0 k rfl, ?_⟩
    rw [h1.symm.symm] at *
    have h8 : NumsIn w (.slice (some ⟨g, o, none⟩) (l.length + 1) cap) ([k] ++ l) := ⟨_, _, rfl, h2, h3, .inr ⟨g, o, rfl, h7⟩⟩
    exact h8.drop

theorem NumsIn.snoc {w : World} {v : Value} {k : Nat} {l : List Nat} (h : NumsIn w v (l ++ [k])) : ∃ g o cap, v = .slice (some ⟨g, o, none⟩) (l.length + 1) cap ∧ l.length + 1 ≤ cap ∧ cap ≤ maxLen ∧ w.cell? ⟨g, o + l.length, none⟩ = some (.int .i64 k) ∧ NumsIn w (.slice (some ⟨g, o, none⟩) l.length cap) l := by
  obtain ⟨ao, cap, h1, h2, h3, h4⟩ := h
  rcases h4 with h4 | ⟨g, o, rfl, h7⟩
  · exact absurd h4 (by simp)
  · have h8 : NumsIn w (.slice (some ⟨g, o, none⟩) (l ++ [k]).length cap) (l ++ [k]) := ⟨_, _, rfl, h2, h3, .inr ⟨g, o, rfl, h7⟩⟩
    refine ⟨g, o, cap, ?_, ?_, h3, h7 l.length k (by simp), h8.left⟩
    · rw [h1]; simp
    · simpa using h2

theorem snoc_cases (l : List Nat) : l = [] ∨ ∃ l' x, l = l' ++ [x] := by
  rcases List.eq_nil_or_concat l with h | ⟨l', x, h⟩
  · exact .inl h
  · exact .inr ⟨l', x, by rw [h, List.concat_eq_append]⟩

set_option maxRecDepth 100000 in
set_option maxHeartbeats 1600000 in
theorem specs_yes (a : Addr) (n cap : Nat) (E : Nat → Nd) (hn : n ≤ 400) (l : List Nat) (lv : Value) (w : World) (hl : ∀ k ∈ l, k < n) (hln : l.length ≤ n) (ht : Lies w a n E) (hI : NumsIn w lv l) :
    Calls Try.prog 37 #[.slice (some a) n cap, lv] w fun e w' => Yes (Specs E l) e ∧ Below w.heap.size w w' := by
  cases l with
  | nil =>
    obtain ⟨ao, cp, rfl, hc1, hc2⟩ := hI.form
    clear hI hl ht
    go_enter Try.func37, Try.ntmps37
    go_wp2
    go_ret
    exact ⟨⟨_, rfl, fun h => by cases h⟩, Below.refl _ _⟩
  | cons k l =>
    have HI' := Lib.hid hI
    obtain ⟨g, o, cp, rfl, hc1, hc2, hck, -⟩ := hI.cons
    have HT := Lib.hid ht
    have HL := Lib.hid hl
    have hkn := hl k (by simp)
    have hkn' : (k : Int) < n := by omega
    obtain ⟨q0, -⟩ := ht k hkn
    clear hI ht hl
    by_cases hk : (E k).kind = 38
    · rw [hk] at q0
      have HK := Lib.hid hk
      clear hk
      go_enter Try.func37, Try.ntmps37
      go_wp2_with (go_at_call 28; refine (kinds_yes a n cap E hn (k :: l) _ _ [38, 39] (by decide) _ HL.out hln (HT.out.below (by go_grown)) (HI'.out.below (by go_grown)) (KsIn.new _ _ _)).mono ?_; rintro e w2 ⟨⟨r, rfl, hr⟩, hb2⟩; have hbw : Below w.heap.size w w2 := below_step (Nat.le_refl _) (by go_grown) hb2; have HR := Lib.hid hr; clear hr; cases r)
      all_goals
        go_ret
        refine ⟨⟨_, rfl, fun h => ?_⟩, hbw⟩
      · cases h
      · refine ⟨k, l, rfl, HK.out, fun j hj => ?_⟩
        have := HR.out (by first | rfl | trivial) j (List.mem_cons_of_mem _ hj)
        simpa using this
    · obtain ⟨ke, hke⟩ : ∃ ke, (E k).kind = ke := ⟨_, rfl⟩
      rw [hke] at q0 hk
      have d1 : (ke == 38) = false := by simpa using hk
      clear hke
      go_enter Try.func37, Try.ntmps37
      go_wp2
      go_ret
      exact ⟨⟨_, rfl, fun h => by cases h⟩, Below.refl _ _⟩

theorem empty_iff {t : ByteArray} : t.toList.isEmpty = true ↔ t.size = 0 := by
  rw [ByteArray.toList_eq]
  obtain ⟨⟨l⟩⟩ := t
  cases l <;> simp [ByteArray.size]

/-- Arguments with names stand behind all others. -/
def Late (E : Nat → Nd) (l : List Nat) : Prop := ∀ i, 0 < i → i < l.length → ∀ j k, l[i - 1]? = some j → l[i]? = some k → (E j).text.size ≠ 0 → (E k).text.size ≠ 0

set_option maxRecDepth 100000 in
set_option maxHeartbeats 1600000 in
theorem args_yes (a : Addr) (n cap : Nat) (E : Nat → Nd) (hn : n ≤ 400) (l : List Nat) (lv : Value) (w : World) (hl : ∀ k ∈ l, k < n) (hln : l.length ≤ n) (ht : Lies w a n E) (hI : NumsIn w lv l) :
    Calls Try.prog 39 #[.slice (some a) n cap, lv] w fun e w' => Yes ((∀ k ∈ l, (E k).kind = 34) ∧ Late E l) e ∧ Below w.heap.size w w' := by
  obtain ⟨ao, cp, rfl, hc1, hc2⟩ := hI.form
  have HI := Lib.hid hI
  have HT := Lib.hid ht
  have HL := Lib.hid hl
  clear hI ht hl
  go_enter Try.func39, Try.ntmps39
  go_wp2_with (go_at_call 28; refine (kinds_yes a n cap E hn l _ _ [34] (by decide) _ HL.out hln (HT.out.below (by go_grown)) (HI.out.below (by go_grown)) (KsIn.new _ _ _)).mono ?_; rintro e w2 ⟨⟨r, rfl, hr⟩, hb2⟩; have hbw : Below w.heap.size w w2 := below_step (Nat.le_refl _) (by go_grown) hb2; have HR := Lib.hid hr; clear hr; cases r)
  · go_ret
    exact ⟨⟨_, rfl, fun h => by cases h⟩, hbw⟩
  have HT2 := Lib.hid (HT.out.below hbw)
  have HI2 := Lib.hid (HI.out.below hbw)
  go_loop [5] (fun v => ∃ j : Nat, v = .int .i64 ((j : Int) + 1) ∧ j ≤ l.length ∧ Hid (∀ i, 0 < i → i ≤ j → ∀ j k, l[i - 1]? = some j → l[i]? = some k → (E j).text.size ≠ 0 → (E k).text.size ≠ 0)) (fun v => l.length + 1 - (intOf v).toNat)
  case atStart => exact ⟨0, by go_num, Nat.zero_le _, Lib.hid (fun i h1 h2 => absurd h2 (by omega))⟩
  case round =>
    obtain ⟨j, rfl, hj, HJ⟩ := hrel
    by_cases hlt : j + 1 < l.length
    · obtain ⟨x, hx⟩ : ∃ x, l[j]? = some x := ⟨_, List.getElem?_eq_getElem (by omega)⟩
      obtain ⟨y, hy⟩ : ∃ y, l[j + 1]? = some y := ⟨_, List.getElem?_eq_getElem hlt⟩
      obtain ⟨g, o, rfl, hcx⟩ := HI2.out.get hx
      obtain ⟨g', o', he, hcy⟩ := HI2.out.get hy
      cases he
      have hxn := HL.out x (List.mem_of_getElem? hx)
      have hyn := HL.out y (List.mem_of_getElem? hy)
      have hxn' : (x : Int) < n := by omega
      have hyn' : (y : Int) < n := by omega
      have hlt1 : (j : Int) < l.length := by omega
      have hlt2 : (j : Int) + 1 < l.length := by omega
      have e1 : ((j : Int) + 1).toNat = j + 1 := by omega
      have e2 : 0 ≤ (j : Int) + 1 := by omega
      obtain ⟨-, -, px, -⟩ := HT2.out x hxn
      obtain ⟨-, -, py, -⟩ := HT2.out y hyn
      have HX := Lib.hid hx
      have HY := Lib.hid hy
      clear hx hy
      obtain ⟨bx, hbx⟩ : ∃ b, (E x).text.toList.isEmpty = b := ⟨_, rfl⟩
      obtain ⟨bY, hby⟩ : ∃ b, (E y).text.toList.isEmpty = b := ⟨_, rfl⟩
      have HBX := Lib.hid hbx
      have HBY := Lib.hid hby
      have step : (bx = true ∨ bY = false) → Hid (∀ i, 0 < i → i ≤ j + 1 → ∀ j k, l[i - 1]? = some j → l[i]? = some k → (E j).text.size ≠ 0 → (E k).text.size ≠ 0) := by
        intro hor
        refine Lib.hid (fun i h1 h2 j' k' hj' hk' hs => ?_)
        by_cases hi : i ≤ j
        · exact HJ.out i h1 hi j' k' hj' hk' hs
        · obtain rfl : i = j + 1 := by omega
          rw [Nat.add_sub_cancel, HX.out] at hj'
          rw [HY.out] at hk'
          cases hj'
          cases hk'
          rcases hor with h | h
          · exact absurd (empty_iff.1 (HBX.out.trans h)) hs
          · intro h0
            have := HBY.out.symm.trans (empty_iff.2 h0)
            rw [h] at this
            cases this
      have HS := Lib.hid step
      clear step
      cases bx
      · cases bY
        · go_wp2
          go_round
          case rel => exact ⟨j + 1, by go_num, by omega, HS.out (.inr rfl)⟩
          case measure => first | (simp [intOf]; done) | (simp [intOf]; omega)
        · go_wp2
          go_ret
          exact ⟨⟨_, rfl, fun h => by cases h⟩, hbw⟩
      · go_wp2
        go_round
        case rel => exact ⟨j + 1, by go_num, by omega, HS.out (.inl rfl)⟩
        case measure => first | (simp [intOf]; done) | (simp [intOf]; omega)
    · have hlt2 : ¬ (j : Int) + 1 < l.length := by omega
      go_wp2
      go_ret
      refine ⟨⟨_, rfl, fun _ => ⟨fun k hk => by simpa using HR.out (by first | rfl | trivial) k hk, fun i h1 h2 => HJ.out i h1 (by omega)⟩⟩, hbw⟩

/-- What stands ahead of the specifications. -/
def Comp (E : Nat → Nd) (l : List Nat) (f : Nat) : Prop := (f = 0 → ∀ k ∈ l, (E k).kind = 36) ∧ (f = 1 → ∃ l1 x l2, l = l1 ++ x :: l2 ∧ (E x).kind = 35 ∧ (E x).flag = 2 ∧ (E x).op = 0 ∧ (∀ k ∈ l1, (E k).kind = 36) ∧ ∀ k ∈ l2, (E k).kind = 36)

theorem Comp.loc {E : Nat → Nd} {l : List Nat} {f k : Nat} (h : Comp E l f) (hk : (E k).kind = 36) : Comp E (l ++ [k]) f := by
  refine ⟨fun h0 j hj => ?_, fun h1 => ?_⟩
  · rcases List.mem_append.1 hj with h2 | h2
    · exact h.1 h0 j h2
    · rw [List.mem_singleton.1 h2]; exact hk
  · obtain ⟨l1, x, l2, h2, h3, h4, h5, h6, h7⟩ := h.2 h1
    refine ⟨l1, x, l2 ++ [k], by rw [h2]; simp, h3, h4, h5, h6, fun j hj => ?_⟩
    rcases List.mem_append.1 hj with h8 | h8
    · exact h7 j h8
    · rw [List.mem_singleton.1 h8]; exact hk

theorem Comp.fld {E : Nat → Nd} {l : List Nat} {f k : Nat} (h : Comp E l f) (hk : (E k).kind = 35) (hf : (E k).flag = 2) (ho : (E k).op = 0) : Comp E (l ++ [k]) (f + 1) :=
  ⟨fun h0 => absurd h0 (by omega), fun h1 => ⟨l, k, [], rfl, hk, hf, ho, h.1 (by omega), fun _ h => absurd h (by simp)⟩⟩

theorem take_succ' {l : List Nat} {p k : Nat} (h : l[p]? = some k) : l.take (p + 1) = l.take p ++ [k] := by
  rw [List.take_add_one, h]; rfl

set_option maxRecDepth 100000 in
set_option maxHeartbeats 1600000 in
theorem scomp_yes (a : Addr) (n cap : Nat) (E : Nat → Nd) (hn : n ≤ 400) (l : List Nat) (lv : Value) (w : World) (hl : ∀ k ∈ l, k < n) (hln : l.length ≤ n) (ht : Lies w a n E) (hI : NumsIn w lv l) :
    Calls Try.prog 38 #[.slice (some a) n cap, lv] w fun e w' => Yes (∃ p, Comp E (l.take p) 1 ∧ Specs E (l.drop p)) e ∧ Below w.heap.size w w' := by
  obtain ⟨ao, cp, rfl, hc1, hc2⟩ := hI.form
  have HI := Lib.hid hI
  have HT := Lib.hid ht
  have HL := Lib.hid hl
  clear hI ht hl
  go_enter Try.func38, Try.ntmps38
  go_wp2
  go_loop [5, 6] (fun u v => ∃ f p : Nat, u = .int .i64 f ∧ v = .int .i64 p ∧ p ≤ l.length ∧ f ≤ p ∧ Hid (Comp E (l.take p) f)) (fun _ v => l.length - (intOf v).toNat)
  case atStart => exact ⟨0, 0, rfl, rfl, Nat.zero_le _, Nat.le_refl _, Lib.hid ⟨fun _ k hk => absurd hk (by simp), fun h => by cases h⟩⟩
  case round =>
    obtain ⟨f, p, rfl, rfl, hp, hfp, HC⟩ := hrel
    have key : ∀ (w2 : World), True := fun _ => trivial
    clear key
    by_cases hlt : p < l.length
    · obtain ⟨k, hk⟩ : ∃ k, l[p]? = some k := ⟨_, List.getElem?_eq_getElem hlt⟩
      obtain ⟨g, o, rfl, hck⟩ := HI.out.get hk
      have hkn := HL.out k (List.mem_of_getElem? hk)
      have hkn' : (k : Int) < n := by omega
      have hlt' : (p : Int) < l.length := by omega
      obtain ⟨q0, q1, -, q3, -⟩ := HT.out k hkn
      have HK := Lib.hid hk
      clear hk
      obtain ⟨ke, hke⟩ : ∃ ke, (E k).kind = ke := ⟨_, rfl⟩
      rw [hke] at q0
      have HKE := Lib.hid hke
      clear hke
      by_cases h36 : ke = 36
      · subst h36
        have HC2 := Lib.hid (HC.out.loc HKE.out)
        go_wp2
        go_round
        case rel => exact ⟨f, p + 1, rfl, by go_num, by omega, by omega, Lib.hid (by rw [take_succ' HK.out]; exact HC2.out)⟩
        case measure => first | (simp [intOf]; done) | (simp [intOf]; omega)
      by_cases h35 : ke = 35
      · subst h35
        obtain ⟨fl, hfl⟩ : ∃ fl, (E k).flag = fl := ⟨_, rfl⟩
        obtain ⟨op, hop⟩ : ∃ op, (E k).op = op := ⟨_, rfl⟩
        rw [hfl] at q3
        rw [hop] at q1
        have HFL := Lib.hid hfl
        have HOP := Lib.hid hop
        clear hfl hop h36
        by_cases hf2 : fl = 2
        · by_cases ho0 : op = 0
          · subst hf2 ho0
            have HC2 := Lib.hid (HC.out.fld HKE.out HFL.out HOP.out)
            go_wp2
            go_round
            case rel => exact ⟨f + 1, p + 1, by go_num, by go_num, by omega, by omega, Lib.hid (by rw [take_succ' HK.out]; exact HC2.out)⟩
            case measure => first | (simp [intOf]; done) | (simp [intOf]; omega)
          · subst hf2
            have d1 : (op == 0) = false := by simpa using ho0
            go_wp2
            go_ret
            exact ⟨⟨_, rfl, fun h => by cases h⟩, Below.refl _ _⟩
        · have d1 : (fl == 2) = false := by simpa using hf2
          go_wp2
          go_ret
          exact ⟨⟨_, rfl, fun h => by cases h⟩, Below.refl _ _⟩
      · have d1 : (ke == 36) = false := by simpa using h36
        have d2 : (ke == 35) = false := by simpa using h35
        by_cases hf1 : f = 1
        · subst hf1
          have hI2 : NumsIn w (.slice (some ⟨g, o, none⟩) l.length cp) (l.take p ++ l.drop p) := by rw [List.take_append_drop]; exact HI.out
          have hI3 := hI2.drop
          rw [List.length_take, Nat.min_eq_left hp, List.length_drop] at hI3
          have hcp : ¬ cp = p := by omega
          have HI3 := Lib.hid hI3
          clear hI2 hI3
          go_wp2_with (go_at_call 37; refine (specs_yes a n cap E hn (l.drop p) _ _ (fun k hk => HL.out k (List.mem_of_mem_drop hk)) (by simp; omega) HT.out HI3.out).mono ?_; rintro e w2 ⟨⟨r, rfl, hr⟩, hb2⟩; have HR := Lib.hid hr; clear hr; cases r)
          all_goals
            go_ret
            exact ⟨⟨_, rfl, fun h => by first | (cases h; done) | exact ⟨p, HC.out, HR.out (by first | rfl | trivial)⟩⟩, hb2⟩
        · have d3 : ((f : Int) == 1) = false := by simp; omega
          have hf1' : ¬ (f : Int) = 1 := by omega
          go_wp2
          go_ret
          exact ⟨⟨_, rfl, fun h => by cases h⟩, Below.refl _ _⟩
    · obtain rfl : p = l.length := by omega
      by_cases hf1 : f = 1
      · subst hf1
        obtain ⟨x, hx⟩ : ∃ x, l[0]? = some x := ⟨_, List.getElem?_eq_getElem (by omega)⟩
        obtain ⟨g, o, rfl, hck⟩ := HI.out.get hx
        clear hx hck
        by_cases hcp : cp = l.length
        all_goals
          go_wp2_with (go_at_call 37; refine (specs_yes a n cap E hn [] _ _ (fun k hk => absurd hk (by simp)) (by simp) HT.out (by first | exact NumsIn.nil _ _ _ (by omega) | (simp only [Nat.sub_self]; exact NumsIn.nil _ _ _ (by omega)))).mono ?_; rintro e w2 ⟨⟨r, rfl, hr⟩, hb2⟩; have HR := Lib.hid hr; clear hr; cases r)
          all_goals
            go_ret
            exact ⟨⟨_, rfl, fun h => by first | (cases h; done) | exact (by obtain ⟨_, _, h, -⟩ := HR.out (by first | rfl | trivial); cases h)⟩, hb2⟩
      · have d3 : ((f : Int) == 1) = false := by simp; omega
        have hf1' : ¬ (f : Int) = 1 := by omega
        go_wp2
        go_ret
        exact ⟨⟨_, rfl, fun h => by cases h⟩, Below.refl _ _⟩
end Go.Proofs.Ytkpfbgeaodopoaa.fnDirect
