/-
  FnSplitBoth: std.splitLimitR.
-/
import Derived.Test.YtekfehoabcbcfaaSplLeft
import Derived.Test.YtekfehoabcbcfaaSplLast
namespace Go.Proofs.Ytekfehoabcbcfaa.fnSplitBoth
open Go.RowKit Go.Proofs.Ytekfehoabcbcfaa.fnEncodeExact Go.Proofs.Ytekfehoabcbcfaa.pts
set_option linter.unusedSimpArgs false
set_option linter.unusedVariables false

theorem last_any (s c : ByteArray) (hs : s.size ≤ 2000) (P R : List UInt8) (hne : c.data.toList ≠ []) (hp : Plain c.data.toList) (hR : Free c.data.toList R) (h : s.data.toList = P ++ (c.data.toList ++ R)) (w : World) :
    Calls Try.prog 29 #[.string s, .string c] w fun e w' => e = .returned (.int .i64 P.length) ∧ w = w' :=
  (Any.strings_LastIndex Try.laysLast s c (by omega) w).mono fun e w' ⟨h1, h2⟩ => ⟨by rw [h1, h, last_at hne hp P R hR], h2.symm⟩

/-- A part's text. -/
def tx (A : List (List UInt8)) (j : Nat) : Value := .string ⟨(A.getD j []).toArray⟩

/-- The row of texts, those behind place i laid. -/
def rmix (A : List (List UInt8)) (i : Nat) : List Value := (List.range A.length).map fun j => if i < j then tx A j else .string ⟨#[]⟩

theorem rmix_none (A : List (List UInt8)) (m : Nat) (h : A.length = m + 1) : (madeCells (Value.string ⟨#[]⟩).cells ((m + 1) * 1)).toList = rmix A m := by
  rw [Nat.mul_one, show (Value.string ⟨#[]⟩).cells = #[Value.string ⟨#[]⟩] from rfl, toList_madeCells_one]
  apply List.ext_getElem
  · simp [rmix, h]
  · intro j h1 h2
    have hj : j < m + 1 := by simpa using h1
    simp only [rmix, List.getElem_map, List.getElem_range, List.getElem_replicate]
    rw [if_neg (by omega)]

theorem rmix_set (A : List (List UInt8)) (i : Nat) : (rmix A (i + 1)).set (i + 1) (tx A (i + 1)) = rmix A i := by
  apply List.ext_getElem
  · simp [rmix]
  · intro j h1 h2
    rw [List.getElem_set]
    simp only [rmix, List.getElem_map, List.getElem_range]
    by_cases hj : i + 1 = j
    · subst hj
      simp
    · rw [if_neg hj]
      by_cases hlt : i + 1 < j
      · rw [if_pos hlt, if_pos (show i < j by omega)]
      · rw [if_neg hlt, if_neg (show ¬ i < j by omega)]

theorem rmix_end (A : List (List UInt8)) : (rmix A 0).set 0 (tx A 0) = cells A := by
  apply List.ext_getElem
  · simp [rmix, cells]
  · intro j h1 h2
    have hj : j < A.length := by simpa [cells] using h2
    rw [List.getElem_set]
    have hc : (cells A)[j] = tx A j := by
      unfold tx
      simp only [cells, List.getElem_map]
      rw [List.getD_eq_getElem?_getD, List.getElem?_eq_getElem hj]
      rfl
    rw [hc]
    simp only [rmix, List.getElem_map, List.getElem_range]
    by_cases h0 : 0 = j
    · subst h0
      rw [if_pos rfl]
    · rw [if_neg h0, if_pos (by omega)]

theorem rmix_at (A : List (List UInt8)) (i : Nat) (hi : i < A.length) : (rmix A i)[i]? = some (.string ⟨#[]⟩) := by
  unfold rmix
  rw [List.getElem?_map, List.getElem?_range hi]
  simp

/-- The text up to a part, taken apart at its last separator. -/
theorem glue_back (C : List UInt8) (D : List (List UInt8)) (R : List UInt8) (i : Nat) (hi : i + 1 ≤ D.length) (X : List UInt8) : glue C (D.take (i + 1)) ++ X = (glue C (D.take i) ++ (D ++ [R]).getD i []) ++ (C ++ X) := by
  have h1 : D.take (i + 1) = D.take i ++ [D[i]'(by omega)] := List.take_succ_eq_append_getElem (by omega)
  have h2 : (D ++ [R]).getD i [] = D[i]'(by omega) := by
    rw [List.getD_eq_getElem?_getD, List.getElem?_append_left (by omega), List.getElem?_eq_getElem (by omega)]
    rfl
  rw [h1, h2, glue_snoc]
  simp

theorem parts_free {C : List UInt8} {D : List (List UInt8)} {R : List UInt8} (hne : C ≠ []) (hD : ∀ x ∈ D, First C x) (hR : Free C R) (i : Nat) (hi : i < (D ++ [R]).length) : Free C ((D ++ [R]).getD i []) := by
  rw [List.getD_eq_getElem?_getD, List.getElem?_eq_getElem hi]
  have h1 : (D ++ [R])[i] ∈ D ++ [R] := List.getElem_mem hi
  rcases List.mem_append.1 h1 with h | h
  · exact first_free hne (hD _ h)
  · have h2 : (D ++ [R])[i] = R := by simpa using h
    rw [show (some (D ++ [R])[i]).getD [] = (D ++ [R])[i] from rfl, h2]
    exact hR

theorem text_eq {t : ByteArray} {X : List UInt8} (h : t.data.toList = X) : t = ⟨X.toArray⟩ := by
  rw [← h, mk_list]

theorem cut_tail {t c : ByteArray} {P X : List UInt8} (h : t.data.toList = P ++ (c.data.toList ++ X)) : t.extract (P.length + c.size) t.size = ⟨X.toArray⟩ := by
  apply text_eq
  rw [ext_tail, h, ← List.append_assoc, List.drop_left']
  rw [List.length_append, len_list]

theorem cut_len {t c : ByteArray} {P X : List UInt8} (h : t.data.toList = P ++ (c.data.toList ++ X)) : P.length + c.size ≤ t.size := by
  have h1 := congrArg List.length h
  rw [List.length_append, List.length_append, len_list, len_list] at h1
  omega

theorem cut_front {t c : ByteArray} {P X : List UInt8} (h : t.data.toList = P ++ (c.data.toList ++ X)) : (t.extract 0 P.length).data.toList = P := by
  rw [ext_eq]
  show ((t.data.toList.take P.length).drop 0) = P
  rw [List.drop_zero, h, List.take_left]

set_option maxRecDepth 100000 in
theorem right_any (s c : ByteArray) (L U : List Nat) (hL : Upto s s.size L) (hU : Upto c c.size U) (hplain : Plain c.data.toList) (hs : s.size ≤ 2000) (hc : c.size ≤ 2000) (hc0 : 1 ≤ c.size) (i b1 b2 q : Nat) (w : World) (h1 : StrIn 0 w b1 L) (h2 : StrIn 0 w b2 U) (h3 : w.cell? ⟨q, 0, none⟩ = some (.float .f64 4656510908468559872)) :
    Calls Try.prog 19 #[.pointer (some ⟨i, 0, none⟩), .iface 97 (.pointer (some ⟨b1, 0, none⟩)), .iface 97 (.pointer (some ⟨b2, 0, none⟩)), .iface 93 (.pointer (some ⟨q, 0, none⟩))] w
    fun e w' => ∃ p D R Ms, e = .returned (.tuple #[.iface 74 (.pointer (some ⟨p, 0, none⟩)), .nilIface]) ∧ Parts s c D R ∧ D ++ [R] = bytesOf Ms ∧ (∀ M ∈ Ms, ∀ r ∈ M, Val r) ∧ ArrIn w' p Ms ∧ Below w.heap.size w w' := by
  have HLU := Lib.hid hL
  have HUU := Lib.hid hU
  have H1 := Lib.hid h1
  have H2 := Lib.hid h2
  have H3 := Lib.hid h3
  have HPL := Lib.hid hplain
  have HNE := Lib.hid (ne_of_size hc0)
  clear hL hU h1 h2 h3 hplain
  go_enter Try.func19, Try.ntmps19
  go_wp2_with fail
  refine (getString_any _ _ _).mono ?_
  rintro e w1 ⟨rfl, rfl⟩
  go_wp2_with fail
  refine (getString_any _ _ _).mono ?_
  rintro e w1 ⟨rfl, rfl⟩
  go_wp2_with fail
  refine (getInt_any _ q _ _ (.inr ⟨rfl, rfl⟩) _ H3.out).mono ?_
  rintro e w1 ⟨rfl, rfl⟩
  go_wp2_with fail
  refine (getGo_any b1 s L HLU.out _ H1.out).mono ?_
  rintro e w1 ⟨rfl, rfl⟩
  go_wp2_with fail
  refine (getGo_any b2 c U HUU.out _ H2.out).mono ?_
  rintro e w1 ⟨rfl, rfl⟩
  go_wp2_with fail
  refine (count_any s c hs hc0 hc _).mono ?_
  rintro e w2 ⟨⟨D, R, rfl, hD, hR, hglue, hDs⟩, rfl⟩
  have hne := points_ne HUU.out hc0
  have hpv := parts_val hne (upto_val HUU.out) D R L (upto_val HLU.out) (by rw [← upto_rest HUU.out, ← upto_rest HLU.out]; exact hglue)
  obtain ⟨Ms, hMs, hMv⟩ := parts_points hpv
  obtain ⟨hsz1, hsz2⟩ := part_size hglue hc0
  have hlen : Ms.length = D.length + 1 := by rw [← bytesOf_len, ← hMs]; simp
  have HEL : Hid (∀ k (h : k < Ms.length), (Ms[k].flatMap enc).length ≤ 2000) := Lib.hid (fun k hk => by
    have := hsz2 (Ms[k].flatMap enc) (by rw [hMs]; unfold bytesOf; exact List.mem_map.2 ⟨_, List.getElem_mem hk, rfl⟩)
    omega)
  have HP : Hid (Parts s c D R) := Lib.hid ⟨hD, hR, hglue⟩
  have HMS := Lib.hid hMs
  have HMV := Lib.hid hMv
  have HAL : Hid ((D ++ [R]).length = D.length + 1) := Lib.hid (by simp)
  clear hMs hMv hpv hsz2 hsz1 hne hD hR hglue
  have HLEN := Lib.hid hlen
  have hml : Ms.length ≤ 2001 := by omega
  have hml0 : 0 < Ms.length := by omega
  have hl1 : Ms.length ≤ D.length + 1 := by omega
  have hl2 : D.length + 1 ≤ Ms.length := by omega
  clear hlen
  have hcnt : ¬ ((2000 : Int) < (D.length : Int)) := by omega
  have hD2 : D.length ≤ 2000 := by omega
  obtain ⟨j0, hj, hjz0, hjz1, hjz2⟩ := info_parts infoString
  go_wp2_with (at_make; refine wpList_make_full _ rfl _ _ 26 rfl w.heap.size 9 j0 (.string ⟨#[]⟩) 1 Try.underlying26 hj hjz0 hjz1 _ _ _ _ Ms.length rfl rfl (by omega) (by omega) (by rw [hjz2]; omega) (by unfold maxLen; omega) (Nat.le_refl _) ?_; intro w3 hown3 hg)
  have hb3 : Below w.heap.size w w3 := (Below.refl _ _).grown hg (Nat.le_refl _) (fun b hb => by cases hb)
  have hlt3 := (hown3.lt _ rfl).2
  rw [show Ms.length * 1 = (D.length + 1) * 1 by omega, rmix_none (D ++ [R]) D.length HAL.out] at hown3
  have HO3 := Lib.hid hown3
  have HT3 : Hid (s.data.toList = glue c.data.toList (D.take D.length) ++ (D ++ [R]).getD D.length []) := Lib.hid (by
    rw [List.take_length, List.getD_eq_getElem?_getD, List.getElem?_append_right (Nat.le_refl _), Nat.sub_self]
    exact HP.out.2.2.symm)
  clear hown3 hg hcnt
  go_loopw [14, 18] (fun x j wr => ∃ (k : Nat) (t : ByteArray), k ≤ D.length ∧ x = .string t ∧ j = .int .i64 k ∧ t.size ≤ 2000 ∧ Hid (t.data.toList = glue c.data.toList (D.take k) ++ (D ++ [R]).getD k []) ∧ Hid (wr.ownsRow w.heap.size 9 1 (.slice (some ⟨w.heap.size, 0, none⟩) Ms.length Ms.length) Ms.length (rmix (D ++ [R]) k)) ∧ w.heap.size < wr.heap.size ∧ Below w.heap.size w wr) (fun _ j _ => (intOf j).toNat)
  case atStart => exact ⟨D.length, s, Nat.le_refl _, rfl, rfl, hs, HT3, HO3, hlt3, hb3⟩
  case round =>
    obtain ⟨k, t, hk, rfl, rfl, hts, HT, HO, hlt, hbel⟩ := hrel
    clear HO3 HT3 hb3 hlt3
    cases k with
    | succ k =>
      have HT2 : Hid (t.data.toList = (glue c.data.toList (D.take k) ++ (D ++ [R]).getD k []) ++ (c.data.toList ++ (D ++ [R]).getD (k + 1) [])) := Lib.hid (by rw [HT.out]; exact glue_back _ D R k (by omega) _)
      have HFR : Hid (Free c.data.toList ((D ++ [R]).getD (k + 1) [])) := Lib.hid (parts_free HNE.out HP.out.1 HP.out.2.1 (k + 1) (by rw [HAL.out]; omega))
      have HLA := Lib.hid (last_any t c hts _ _ HNE.out HPL.out HFR.out HT2.out wr)
      have hpl := cut_len HT2.out
      have HCT := Lib.hid (cut_tail HT2.out)
      have HCF := Lib.hid (cut_front HT2.out)
      generalize (glue c.data.toList (D.take k) ++ (D ++ [R]).getD k []).length = pl at HLA hpl HCT HCF
      have HPS : Hid ((t.extract 0 pl).size = pl) := Lib.hid (by simp; omega)
      have hk1 : ((pl : Int) + (c.size : Int)).toNat = pl + c.size := by omega
      have hk2 : (((k + 1 : Nat) : Int)).toNat = k + 1 := by omega
      have c1 := own_cell HO.out rfl (show k + 1 < Ms.length by omega) (rmix_at (D ++ [R]) (k + 1) (by rw [HAL.out]; omega))
      have c2 := World.ownsRow.frozenAt HO.out (k + 1)
      have hst := World.ownsRow.stored HO.out (k + 1) (tx (D ++ [R]) (k + 1))
      rw [rmix_set] at hst
      have HST : Hid ((wr.setCell ⟨w.heap.size, k + 1, none⟩ (.string (t.extract (pl + c.size) t.size))).ownsRow w.heap.size 9 1 (.slice (some ⟨w.heap.size, 0, none⟩) Ms.length Ms.length) Ms.length (rmix (D ++ [R]) k) ∧ wr.grownBy (wr.setCell ⟨w.heap.size, k + 1, none⟩ (.string (t.extract (pl + c.size) t.size))) (some w.heap.size)) := Lib.hid (by rw [HCT.out]; exact hst)
      clear hst
      go_wp2_with fail
      refine HLA.out.mono ?_
      rintro e w5 ⟨rfl, rfl⟩
      go_wp2
      go_roundw
      case rel =>
        refine ⟨k, t.extract 0 pl, by omega, rfl, by go_num, by rw [HPS.out]; omega, Lib.hid HCF.out, Lib.hid HST.out.1, ?_, hbel.setCell (by exact Nat.le_refl _) _⟩
        have := HST.out.2.size
        omega
      case measure => first | (simp [intOf]; done) | (simp [intOf]; omega)
    | zero =>
      have c1 := own_cell HO.out rfl (show 0 < Ms.length by omega) (rmix_at (D ++ [R]) 0 (by rw [HAL.out]; omega))
      have c2 := World.ownsRow.frozenAt HO.out 0
      have hst := World.ownsRow.stored HO.out 0 (tx (D ++ [R]) 0)
      rw [rmix_end] at hst
      have HTX : Hid (tx (D ++ [R]) 0 = .string t) := Lib.hid (by
        have h1 : t.data.toList = (D ++ [R]).getD 0 [] := by rw [HT.out]; rfl
        rw [text_eq h1]
        rfl)
      have HST : Hid ((wr.setCell ⟨w.heap.size, 0, none⟩ (.string t)).ownsRow w.heap.size 9 1 (.slice (some ⟨w.heap.size, 0, none⟩) Ms.length Ms.length) Ms.length (cells (bytesOf Ms))) := Lib.hid (by
        rw [← HMS.out, ← HTX.out]
        exact hst.1)
      have hb2 : Below w.heap.size w (wr.setCell ⟨w.heap.size, 0, none⟩ (.string t)) := hbel.setCell (by exact Nat.le_refl _) _
      have hlt2 : w.heap.size < (wr.setCell ⟨w.heap.size, 0, none⟩ (.string t)).heap.size := by simpa using hlt
      clear hst
      generalize hW : wr.setCell ⟨w.heap.size, 0, none⟩ (.string t) = w2 at HST hb2 hlt2
      have HW := Lib.hid hW
      clear hW
      obtain ⟨i0, hi, hz0, hz1, hz2⟩ := info_parts infoThunkP
      go_wp2_with (at_make; rw [HW.out]; refine wpList_make_full _ rfl _ _ 71 rfl w2.heap.size 75 i0 (.pointer none) 1 Try.underlying71 hi hz0 hz1 _ _ _ _ Ms.length rfl rfl rfl rfl (by rw [hz2]; omega) (by unfold maxLen; omega) (Nat.le_refl _) ?_; intro w4 hown4 hg)
      have hb13 : Below w2.heap.size w2 w4 := (Below.refl _ _).grown hg (Nat.le_refl _) (fun b hb => by cases hb)
      have hlt13 := (hown4.lt _ rfl).2
      have HR0 : Hid (Rs w.heap.size w2.heap.size w.heap.size Ms.length Ms (fun _ => 0) 0 w4) := Lib.hid ⟨by rw [← mix_none (fun _ => 0)]; exact hown4, fun j h h' => absurd h' (by omega), own_below HST.out hb13, hlt2, hlt13⟩
      have hb4 := below_step (Nat.le_refl _) hb2 hb13
      generalize hB : w2.heap.size = B at *
      clear hown4 hg HST HO HW
      go_wp2_with fail
      go_loopw [104] (fun i wr => ∃ (k : Nat) (V : Nat → Nat), k ≤ Ms.length ∧ i = .int .i64 k ∧ Hid (Rs w.heap.size B w.heap.size Ms.length Ms V k wr) ∧ Below w.heap.size w wr) (fun i _ => Ms.length - (intOf i).toNat)
      case atStart => exact ⟨0, _, Nat.zero_le _, rfl, HR0, hb4⟩
      case round =>
        obtain ⟨k, V, hk, rfl, HR, hbel⟩ := hrel
        clear HR0 hb4 hb13 hlt13
        by_cases hlt : k < Ms.length
        · have c1 := HR.out.str hlt
          have HUP := Lib.hid (upto_made Ms[k] (HMV.out _ (List.getElem_mem hlt)))
          have HSZ : Hid ((ByteArray.mk (Ms[k].flatMap enc).toArray).size ≤ 2000) := Lib.hid (by
            have : (ByteArray.mk (Ms[k].flatMap enc).toArray).size = (Ms[k].flatMap enc).length := by
              show (Ms[k].flatMap enc).toArray.size = _
              simp
            rw [this]
            exact HEL.out k hlt)
          go_wp2_with fail
          refine (flat_any _ Ms[k] HUP.out HSZ.out wr).mono ?_
          rintro e w5 ⟨b, rfl, hst, hb5⟩
          have HN := Lib.hid (HR.out.next hlt hb5 hst)
          have hlt5 := HR.out.lt.2
          have hle5 := hb5.size
          have c2 := cell_later hb5 (HR.out.slot hlt)
          have c3 := World.ownsRow.frozenAt (own_below HR.out.row hb5) k
          have hb6 : Below w.heap.size w (roundWorld w5 B k b) := (((below_step (Nat.le_refl _) hbel hb5).alloc (by have := hbel.size; omega) _).setCell (by have := hb2.size; show w.heap.size ≤ B; omega) _)
          clear hst c1
          go_wp2_with fail
          refine (ready_any _ _ _).mono ?_
          rintro e w6 ⟨rfl, rfl⟩
          have c4 := cell_past (.cells #[.pointer none, .nilIface, .iface 97 (.pointer (some ⟨b, 0, none⟩)), .nilIface] 82) c2
          have c5 := World.ownsRow.frozenAt ((own_below HR.out.row hb5).alloc (.cells #[.pointer none, .nilIface, .iface 97 (.pointer (some ⟨b, 0, none⟩)), .nilIface] 82)) k
          go_wp2
          go_roundw
          case rel => exact ⟨k + 1, _, by omega, by go_num, HN, hb6⟩
          case measure => first | (simp [intOf]; done) | (simp [intOf]; omega)
        · obtain rfl : k = Ms.length := by omega
          have HA := Lib.hid HR.out.arr
          go_wp2_with fail
          refine (array_any _ _ _).mono ?_
          rintro e w6 ⟨rfl, rfl⟩
          go_wp2
          go_ret2
          exact ⟨_, D, R, Ms, rfl, HP.out, HMS.out, HMV.out, HA.out, hbel.alloc hbel.size _⟩
end Go.Proofs.Ytekfehoabcbcfaa.fnSplitBoth
