/-
  FnLinesStripped: the law's walk.
-/
import Derived.Test.YthdlekfnmabldaaDoorStripLoop
namespace Go.Proofs.YthdlekfnmabldaaDoor.fnLinesStripped
open Go.RowKit Go.Proofs.YthdlekfnmabldaaDoor.fnEncodeExact
set_option linter.unusedSimpArgs false
set_option linter.unusedVariables false

/-- What the package's lines are. -/
def Lines (s : ByteArray) (L : List Nat) (m : Nat) (w : World) (e : Ending) (w' : World) : Prop := ∃ v, e = .returned v ∧ w'.ownsRow w.heap.size 9 1 v (splitN [] L).length (cells ((splitN [] L).map (strip m))) ∧ Below w.heap.size w w'

theorem splitLines_any (s : ByteArray) (L : List Nat) (h : Upto s s.size L) (hz : s.size ≤ 2000) (m : Nat) (hm : m ≤ 1000) (w : World) :
    Calls Tryd.prog 9 #[.string s, .int .i64 m] w (Lines s L m w) := by
  have H := Lib.hid h
  clear h
  go_enter Tryd.func9, Tryd.ntmps9
  go_wp2_with fail
  refine (lineSplit_any s L H.out hz m hm _).mono ?_
  rintro e w1 ⟨v, rfl, ho, hb⟩
  have HO := Lib.hid ho
  clear ho
  go_wp2
  go_ret
  exact ⟨v, rfl, HO.out, hb⟩

theorem linesStripped_any (s : ByteArray) (L : List Nat) (h : Upto s s.size L) (hz : s.size ≤ 2000) (m : Nat) (hm : m ≤ 1000) (w : World) :
    Calls Tryd.prog 5 #[.string s, .int .i64 m] w (Lines s L m w) := by
  have H := Lib.hid h
  clear h
  go_enter Tryd.func5, Tryd.ntmps5
  go_wp2_with fail
  refine (splitLines_any s L H.out hz m hm _).mono ?_
  rintro e w1 ⟨v, rfl, ho, hb⟩
  have HO := Lib.hid ho
  clear ho
  go_wp2
  go_ret
  exact ⟨v, rfl, HO.out, hb⟩

theorem short_any (s : ByteArray) (w : World) :
    Calls Tryd.prog 4 #[.string s] w fun e w' => IsB (fun b => b = true → s.size ≤ 2000 ∧ ∃ L, Upto s s.size L) e ∧ w = w' := by
  by_cases hz : (s.size : Int) ≤ 2000
  · go_enter Tryd.func4, Tryd.ntmps4
    go_wp2_with fail
    refine (readable_any s (by omega) _).mono ?_
    rintro e w1 ⟨⟨b, rfl, hb⟩, rfl⟩
    have HB := Lib.hid hb
    clear hb
    go_wp2
    go_ret
    exact ⟨⟨b, rfl, fun h => ⟨by omega, HB.out h⟩⟩, rfl⟩
  · go_enter Tryd.func4, Tryd.ntmps4
    go_wp2
    go_ret
    exact ⟨⟨false, rfl, fun h => by cases h⟩, rfl⟩

theorem line_len : ∀ (L cur : List Nat), ∀ x ∈ splitN cur L, (x.flatMap enc).length ≤ (cur.flatMap enc).length + (L.flatMap enc).length := by
  intro L
  induction L with
  | nil =>
    intro cur x hx
    obtain rfl : x = cur := by simpa [splitN] using hx
    omega
  | cons r L ih =>
    intro cur x hx
    rw [List.flatMap_cons, List.length_append]
    by_cases hr : r = 10
    · rw [show splitN cur (r :: L) = cur :: splitN [] L from if_pos hr] at hx
      rcases List.mem_cons.1 hx with rfl | h
      · omega
      · have := ih [] x h
        have h0 : (List.flatMap enc ([] : List Nat)).length = 0 := rfl
        omega
    · rw [show splitN cur (r :: L) = splitN (cur ++ [r]) L from if_neg hr] at hx
      have := ih _ x hx
      rw [List.flatMap_append, List.length_append] at this
      have h1 : (List.flatMap enc [r]).length = (enc r).length := by simp
      omega

theorem line_count : ∀ (L cur : List Nat), (splitN cur L).length ≤ L.length + 1 := by
  intro L
  induction L with
  | nil => intro cur; exact Nat.le_refl _
  | cons r L ih =>
    intro cur
    rw [List.length_cons]
    by_cases hr : r = 10
    · rw [show splitN cur (r :: L) = cur :: splitN [] L from if_pos hr, List.length_cons]
      have := ih []
      omega
    · rw [show splitN cur (r :: L) = splitN (cur ++ [r]) L from if_neg hr]
      have := ih (cur ++ [r])
      omega

theorem cells_at (D : List (List UInt8)) (k : Nat) (h : k < D.length) : (cells D)[k]? = some (.string ⟨D[k].toArray⟩) := by
  unfold cells
  rw [List.getElem?_map, List.getElem?_eq_getElem h]
  rfl

/-- The two sides' lines, one by one. -/
theorem line_eq (m : Nat) (x : List Nat) : (⟨(back wsb m (ByteArray.mk (x.flatMap enc).toArray).data.toList).toArray⟩ : ByteArray) = ⟨(strip m x).toArray⟩ := by
  have h := stripped m x (fun r _ => fine_all r)
  show (⟨(back wsb m (x.flatMap enc)).toArray⟩ : ByteArray) = _
  rw [← h]
  rfl

set_option maxRecDepth 100000 in
theorem walk (a0 : ByteArray) (a1 : Int) (w : World) (w0 : a0.size ≤ maxLen) :
    Calls Tryd.prog 3 #[.string a0, .int .i64 a1] w fun e w' => e = .returned (.bool true) ∧ Below w.heap.size w w' := by
  by_cases hbig : (2147483647 : Int) < a0.size
  · go_enter Tryd.func3, Tryd.ntmps3
    go_wp2
    go_ret
    exact ⟨rfl, by go_grown⟩
  clear w0
  by_cases hneg : a1 < 0
  · go_enter Tryd.func3, Tryd.ntmps3
    go_wp2_with fail
    refine (short_any a0 _).mono ?_
    rintro e w1 ⟨⟨b, rfl, -⟩, rfl⟩
    cases b
    all_goals
      go_wp2
      go_ret
      exact ⟨rfl, by go_grown⟩
  obtain ⟨m, rfl⟩ := Int.eq_ofNat_of_zero_le (show 0 ≤ a1 by omega)
  by_cases hm : (1000 : Int) < m
  · go_enter Tryd.func3, Tryd.ntmps3
    go_wp2_with fail
    refine (short_any a0 _).mono ?_
    rintro e w1 ⟨⟨b, rfl, -⟩, rfl⟩
    cases b
    all_goals
      go_wp2
      go_ret
      exact ⟨rfl, by go_grown⟩
  go_enter Tryd.func3, Tryd.ntmps3
  go_wp2_with fail
  refine (short_any a0 _).mono ?_
  rintro e w1 ⟨⟨b, rfl, hb⟩, rfl⟩
  cases b
  · go_wp2
    go_ret
    exact ⟨rfl, by go_grown⟩
  obtain ⟨hz, L, hL⟩ := hb rfl
  have HL := Lib.hid hL
  clear hb hL
  go_wp2_with fail
  refine (linesStripped_any a0 L HL.out hz m (by omega) _).mono ?_
  rintro e w1 ⟨v1, rfl, ho1, hb1⟩
  have HO1 := Lib.hid ho1
  clear ho1
  go_wp2_with fail
  refine (lines_any a0 hz _).mono ?_
  rintro e w2 ⟨v2, rfl, ho2, hb2⟩
  have hsp : split [] a0.data.toList = (splitN [] L).map (fun x => x.flatMap enc) := by
    have h1 := split_enc L []
    rw [show List.flatMap enc ([] : List Nat) = [] from rfl, ← upto_rest HL.out] at h1
    exact h1
  rw [hsp, List.length_map] at ho2
  have HO1' := Lib.hid (own_below HO1.out hb2)
  have HO2 := Lib.hid (owns_mono ho2 hb1.size)
  have hb3 := below_step (Nat.le_refl _) hb1 hb2
  have HLN := Lib.hid (line_len L [])
  have HLT : Hid ((L.flatMap enc).length = a0.size) := Lib.hid (by rw [← upto_rest HL.out]; simp)
  have hcnt := line_count L []
  have hLs := HL.out.le.2
  clear ho2 hsp HO1 hb1 hb2
  generalize splitN [] L = X at HO1' HO2 HLN hcnt
  obtain ⟨ao1, cp1, rfl⟩ := owns_slice HO1'.out
  obtain ⟨ao2, cp2, rfl⟩ := owns_slice HO2.out
  go_wp2_with fail
  go_loopw [7] (fun i wr => ∃ k : Nat, k ≤ X.length ∧ i = .int .i64 k ∧ Below w2.heap.size w2 wr) (fun i _ => X.length - (intOf i).toNat)
  case atStart => exact ⟨0, Nat.zero_le _, rfl, Below.refl _ _⟩
  case round =>
    obtain ⟨k, hk, rfl, hbel⟩ := hrel
    by_cases hlt : k < X.length
    · rcases own_form HO1'.out with ⟨-, h0⟩ | ⟨g1, cap1, hv1, -⟩
      · omega
      rcases own_form HO2.out with ⟨-, h0⟩ | ⟨g2, cap2, hv2, -⟩
      · omega
      simp only [Value.slice.injEq, true_and] at hv1 hv2
      obtain ⟨rfl, rfl⟩ := hv1
      obtain ⟨rfl, rfl⟩ := hv2
      have c1 := cell_later hbel (own_cell HO1'.out rfl hlt (cells_at _ k (by simpa using hlt)))
      have c2 := cell_later hbel (own_cell HO2.out rfl hlt (cells_at _ k (by simpa using hlt)))
      rw [List.getElem_map] at c1 c2
      have HSZ : Hid ((ByteArray.mk (X[k].flatMap enc).toArray).size ≤ 4000) := Lib.hid (by
        rw [size_list]
        have h1 := HLN.out _ (List.getElem_mem hlt)
        have h0 : (List.flatMap enc ([] : List Nat)).length = 0 := rfl
        have := HLT.out
        omega)
      have HSP := Lib.hid (fun W => space_any ⟨(X[k].flatMap enc).toArray⟩ HSZ.out m (by omega) W)
      rw [line_eq] at HSP
      generalize (⟨(strip m X[k]).toArray⟩ : ByteArray) = x at c1 HSP
      generalize (⟨(X[k].flatMap enc).toArray⟩ : ByteArray) = y at c2 HSP
      have i1 : (k : Int) < (X.length : Int) := by omega
      go_wp2_with fail
      go_quiet ((go_at_call 7; exact Calls.quiet_of_same ((HSP.out _).mono fun _ _ ⟨h1, h2⟩ => ⟨h1, h2.symm⟩)))
      go_wp2
      go_roundw
      case rel => exact ⟨k + 1, by omega, by go_num, below_drewN hbel _⟩
      case measure => first | (simp [intOf]; done) | (simp [intOf]; omega)
    · go_wp2
      go_ret
      exact ⟨rfl, below_step (Nat.le_refl _) hb3 hbel⟩
end Go.Proofs.YthdlekfnmabldaaDoor.fnLinesStripped
