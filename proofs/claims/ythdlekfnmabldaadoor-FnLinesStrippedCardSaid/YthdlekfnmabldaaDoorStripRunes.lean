/-
  FnLinesStripped: what the package's stripping computes.
-/
import Derived.Test.YthdlekfnmabldaaDoorStripSpec
namespace Go.Proofs.YthdlekfnmabldaaDoor.fnLinesStripped
open Go.RowKit Go.Proofs.YthdlekfnmabldaaDoor.fnEncodeExact
set_option linter.unusedSimpArgs false
set_option linter.unusedVariables false

/-- The code points' cells. -/
def pts (L : List Nat) : List Value := (L.map Int.ofNat).map (Value.int .i32)

theorem pts_get {L : List Nat} {j : Nat} (h : j < L.length) : (pts L)[j]? = some (.int .i32 (L[j] : Nat)) := by
  unfold pts
  simp [h]

theorem conv_runes {s : ByteArray} {L : List Nat} (h : Upto s s.size L) (hz : s.size ≤ 2000) (w : World) :
    ∃ cap, (convert 9 42 (.string s)).run Tryd.prog w = .ok (.slice (some ⟨w.heap.size, 0, none⟩) L.length (L.length + cap)) (w.drew.alloc (.cells ((pts L).toArray ++ Array.replicate cap (.int .i32 0)) 21)) := by
  have h1 := (whole h).1
  have h2 : (Conv.runesFrom s s.size 0 #[]).size = L.length := by rw [h1]; simp
  have h3 := run_runes_of_string (P := Tryd.prog) w 9 42 21 s Tryd.underlying9 Tryd.underlying42 Tryd.underlying21 (by rw [h2]; have := h.le.2; omega)
  rw [h2, h1] at h3
  have h4 := grownCap_ge w L.length 0 21
  obtain ⟨cap, hc⟩ : ∃ cap, grownCap w L.length 0 21 = L.length + cap := ⟨grownCap w L.length 0 21 - L.length, by omega⟩
  rw [hc] at h3
  exact ⟨cap, by rw [h3]; simp [pts, Nat.add_sub_cancel_left]⟩

set_option maxRecDepth 100000 in
theorem fold_bytes (M : List Nat) : ∀ (s : ByteArray), ((M.map Int.ofNat).foldl (fun r n => r ++ Utf8.encode n) s).data.toList = s.data.toList ++ M.flatMap enc := by
  induction M with
  | nil => intro s; simp
  | cons r M ih =>
    intro s
    have he : (Utf8.encode (Int.ofNat r)).data.toList = enc r := by unfold enc; rw [Int.ofNat_eq_natCast]
    rw [List.map_cons, List.foldl_cons, ih, ByteArray.data_append, Array.toList_append, List.append_assoc, List.flatMap_cons, he]

theorem bytes_of (M : List Nat) : runesBytes (M.map Int.ofNat) = ⟨(M.flatMap enc).toArray⟩ := by
  apply ByteArray.ext
  apply Array.toList_inj.1
  show ((M.map Int.ofNat).foldl (fun r n => r ++ Utf8.encode n) ByteArray.empty).data.toList = M.flatMap enc
  rw [fold_bytes]
  rfl

theorem conv_part (b o n c : Nat) (M : List Nat) (hM : M.length = n) {W : World} (hc : ∀ (j : Nat) (hj : j < n), W.cell? ⟨b, o + j, none⟩ = some (.int .i32 (M[j]'(by omega) : Nat))) :
    (convert 42 9 (.slice (some ⟨b, o, none⟩) n c)).run Tryd.prog W = .ok (.string ⟨(M.flatMap enc).toArray⟩) W := by
  subst hM
  rw [run_convert_runes_string (P := Tryd.prog) W 42 9 21 _ _ _ Tryd.underlying42 Tryd.underlying21 Tryd.underlying9]
  have hl := run_loadCells_list (P := Tryd.prog) W ⟨b, o, none⟩ (pts M) (fun j v hj => by
    have hlt : j < M.length := by
      have := (List.getElem?_eq_some_iff.1 hj).1
      simpa [pts] using this
    rw [pts_get hlt] at hj
    rw [Addr.add_lit, hc j hlt]
    exact hj)
  have hlen : (pts M).length = M.length := by simp [pts]
  rw [hlen] at hl
  rw [run_runesToString W _ _ _ (M.map Int.ofNat) hl, bytes_of]

theorem conv_zero (b : Nat) (W : World) (o c : Nat) : (convert 42 9 (.slice (some ⟨b, o, none⟩) 0 c)).run Tryd.prog W = .ok (.string ⟨#[]⟩) W :=
  conv_part b o 0 c [] rfl (fun j hj => absurd hj (by omega))

theorem strip_end (L : List Nat) {f k m : Nat} (hf : f ≤ L.length) (hfk : f ≤ k) (hk : k ≤ L.length) (hl : lead ws m L = f) (hp : ∀ (j : Nat) (hj : j < L.length), k ≤ j → ws L[j] = true) (he : k = f ∨ ∃ h : f < k, ws (L[k - 1]'(by omega)) = false) :
    front ws m L = (L.drop f).take (k - f) := by
  unfold front
  rw [hl]
  refine chop_take ws (L.drop f) (k - f) (by rw [List.length_drop]; omega) (fun j hj hkj => ?_) (fun h h2 => ?_)
  · rw [List.getElem_drop]
    exact hp _ (by rw [List.length_drop] at hj; omega) (by omega)
  · rw [List.getElem_drop]
    rcases he with he | ⟨h3, h4⟩
    · omega
    · have e : f + (k - f - 1) = k - 1 := by omega
      simp only [e]
      exact h4

set_option maxRecDepth 100000 in
set_option maxHeartbeats 1600000 in
theorem strip_any (s : ByteArray) (L : List Nat) (h : Upto s s.size L) (hz : s.size ≤ 2000) (m : Nat) (hm : m ≤ 1000) (w : World) :
    Calls Tryd.prog 13 #[.string s, .int .i64 m] w fun e w' => e = .returned (.string ⟨((front ws m L).flatMap enc).toArray⟩) ∧ Below w.heap.size w w' := by
  obtain ⟨cap, hconv⟩ := conv_runes h hz w
  have H := Lib.hid h
  have hlen := h.le.2
  clear h
  by_cases hs : s.size = 0
  · have hsi : ((s.size : Int) == 0) = true := by rw [hs]; rfl
    have HE : Hid (s = ⟨((front ws m L).flatMap enc).toArray⟩) := Lib.hid (by
      have : L = [] := List.eq_nil_of_length_eq_zero (by omega)
      subst this
      have e : front ws m ([] : List Nat) = [] := by unfold front; simp [chop]
      rw [e]
      apply ByteArray.ext
      exact Array.eq_empty_of_size_eq_zero hs)
    go_enter Tryd.func13, Tryd.ntmps13
    go_wp2
    go_ret
    exact ⟨ret_str HE.out, by go_grown⟩
  have hsi : ((s.size : Int) == 0) = false := by
    cases h : ((s.size : Int) == 0) with
    | false => rfl
    | true => exact absurd (by have := eq_of_beq h; omega) hs
  have HC : Hid (∀ (j : Nat) (hj : j < L.length), (w.alloc (.cells ((pts L).toArray ++ Array.replicate cap (.int .i32 0)) 21)).drew.cell? ⟨w.heap.size, j, none⟩ = some (.int .i32 (L[j] : Nat))) := Lib.hid (fun j hj => by
    show World.cell? (w.alloc _) _ = _
    rw [World.cell?_alloc_mark, Array.getElem?_append_left (by simp [pts]; exact hj)]
    have := pts_get hj
    simpa using this)
  clear hs
  go_enter Tryd.func13, Tryd.ntmps13
  go_wp2_with fail
  go_loop [6] (fun i => ∃ f : Nat, f ≤ L.length ∧ f ≤ m ∧ i = .int .i64 f ∧ Hid (∀ (j : Nat) (hj : j < L.length), j < f → ws L[j] = true)) (fun i => L.length - (intOf i).toNat)
  case atStart => exact ⟨0, Nat.zero_le _, Nat.zero_le _, rfl, Lib.hid (fun j hj hf => absurd hf (by omega))⟩
  case round =>
    obtain ⟨f, hf, hfm, rfl, HQ⟩ := hrel
    by_cases hfl : f < L.length
    · have hcell := HC.out f hfl
      obtain ⟨c, hc⟩ : ∃ c, L[f] = c := ⟨_, rfl⟩
      rw [hc] at hcell
      have HW : Hid (ws L[f] = ws c) := Lib.hid (by rw [hc])
      clear hc
      go_wp2_with fail
      refine (horiz_any _ _).mono ?_
      rintro e w1 ⟨rfl, rfl⟩
      rw [ws_int]
      cases hbb : ws c
      · have hlead := lead_eq ws m f L hfm hf (fun j hj hjf => HQ.out j hj hjf) (.inr (.inr ⟨hfl, by rw [HW.out]; exact hbb⟩))
        have HL := Lib.hid hlead
        clear hlead
        go_wp2_with fail
        go_loop [7] (fun i => ∃ k : Nat, f ≤ k ∧ k ≤ L.length ∧ i = .int .i64 k ∧ Hid (∀ (j : Nat) (hj : j < L.length), k ≤ j → ws L[j] = true)) (fun i => (intOf i).toNat - f)
        case atStart => exact ⟨L.length, hf, Nat.le_refl _, rfl, Lib.hid (fun j hj hs => absurd hj (by omega))⟩
        case round =>
          obtain ⟨k, hfk, hk, rfl, HP⟩ := hrel
          by_cases hk0 : f < k
          · have hlt : k - 1 < L.length := by omega
            have hcell := HC.out (k - 1) hlt
            obtain ⟨c, hc⟩ : ∃ c, L[k - 1] = c := ⟨_, rfl⟩
            rw [hc] at hcell
            have hk1 : (1 : Int) ≤ k := by omega
            have hk2 : (f : Int) < k := by omega
            have hk3 : ((k : Int) - 1).toNat = k - 1 := by omega
            have hk4 : (k : Int) - 1 = ((k - 1 : Nat) : Int) := by omega
            have HW : Hid (ws L[k - 1] = ws c) := Lib.hid (by rw [hc])
            clear hc
            go_wp2_with fail
            refine (horiz_any _ _).mono ?_
            rintro e w1 ⟨rfl, rfl⟩
            rw [ws_int]
            cases hbb : ws c
            · have HE := Lib.hid (strip_end L hf hfk hk HL.out HP.out (.inr ⟨hk0, by rw [HW.out]; exact hbb⟩))
              have hM : ((L.drop f).take (k - f)).length = k - f := by rw [List.length_take, List.length_drop]; omega
              have hcells : ∀ (j : Nat) (hj : j < k - f), (w.alloc (.cells ((pts L).toArray ++ Array.replicate cap (.int .i32 0)) 21)).drew.cell? ⟨w.heap.size, f + j, none⟩ = some (.int .i32 (((L.drop f).take (k - f))[j]'(by omega) : Nat)) := fun j hj => by
                rw [HC.out (f + j) (by omega), List.getElem_take, List.getElem_drop]
              have HE2 : Hid ((⟨(((L.drop f).take (k - f)).flatMap enc).toArray⟩ : ByteArray) = ⟨((front ws m L).flatMap enc).toArray⟩) := Lib.hid (by rw [HE.out])
              by_cases hcf : L.length + cap = f
              · omega
              · have hcb := conv_part w.heap.size f (k - f) (L.length + cap - f) ((L.drop f).take (k - f)) hM (W := (w.alloc (.cells ((pts L).toArray ++ Array.replicate cap (.int .i32 0)) 21)).drew) hcells
                clear hcells hM HC
                go_wp2
                go_ret
                exact ⟨ret_str HE2.out, by go_grown⟩
            · have HP' : Hid (∀ (j : Nat) (hj : j < L.length), k - 1 ≤ j → ws L[j] = true) := Lib.hid (fun j hj hjk => by
                by_cases hjk2 : j = k - 1
                · subst hjk2; rw [HW.out]; exact hbb
                · exact HP.out j hj (by omega))
              go_wp2
              go_round
              case rel => exact ⟨k - 1, by omega, by omega, by first | rfl | (rw [hk4]) | go_num, HP'⟩
              case measure => first | (simp [intOf]; done) | (simp [intOf]; omega)
          · have HE := Lib.hid (strip_end L hf hfk hk HL.out HP.out (.inl (by omega)))
            have hkf : k = f := by omega
            have HE0 : Hid ((⟨#[]⟩ : ByteArray) = ⟨((front ws m L).flatMap enc).toArray⟩) := Lib.hid (by rw [HE.out, hkf, Nat.sub_self]; rfl)
            have hcz := conv_zero w.heap.size
            clear HC
            subst hkf
            by_cases hcf : L.length + cap = k
            · go_wp2
              go_ret
              exact ⟨ret_str HE0.out, by go_grown⟩
            · go_wp2
              go_ret
              exact ⟨ret_str HE0.out, by go_grown⟩
      · by_cases hfm2 : f < m
        · have HQ' : Hid (∀ (j : Nat) (hj : j < L.length), j < f + 1 → ws L[j] = true) := Lib.hid (fun j hj hjf => by
            by_cases hjf2 : j = f
            · subst hjf2; rw [HW.out]; exact hbb
            · exact HQ.out j hj (by omega))
          go_wp2
          go_round
          case rel => exact ⟨f + 1, by omega, by omega, by go_num, HQ'⟩
          case measure => first | (simp [intOf]; done) | (simp [intOf]; omega)
        · have hlead := lead_eq ws m f L hfm hf (fun j hj hjf => HQ.out j hj hjf) (.inl (by omega))
          have HL := Lib.hid hlead
          clear hlead
          go_wp2_with fail
          go_loop [7] (fun i => ∃ k : Nat, f ≤ k ∧ k ≤ L.length ∧ i = .int .i64 k ∧ Hid (∀ (j : Nat) (hj : j < L.length), k ≤ j → ws L[j] = true)) (fun i => (intOf i).toNat - f)
          case atStart => exact ⟨L.length, hf, Nat.le_refl _, rfl, Lib.hid (fun j hj hs => absurd hj (by omega))⟩
          case round =>
            obtain ⟨k, hfk, hk, rfl, HP⟩ := hrel
            by_cases hk0 : f < k
            · have hlt : k - 1 < L.length := by omega
              have hcell := HC.out (k - 1) hlt
              obtain ⟨c, hc⟩ : ∃ c, L[k - 1] = c := ⟨_, rfl⟩
              rw [hc] at hcell
              have hk1 : (1 : Int) ≤ k := by omega
              have hk2 : (f : Int) < k := by omega
              have hk3 : ((k : Int) - 1).toNat = k - 1 := by omega
              have hk4 : (k : Int) - 1 = ((k - 1 : Nat) : Int) := by omega
              have HW : Hid (ws L[k - 1] = ws c) := Lib.hid (by rw [hc])
              clear hc
              go_wp2_with fail
              refine (horiz_any _ _).mono ?_
              rintro e w1 ⟨rfl, rfl⟩
              rw [ws_int]
              cases hbb : ws c
              · have HE := Lib.hid (strip_end L hf hfk hk HL.out HP.out (.inr ⟨hk0, by rw [HW.out]; exact hbb⟩))
                have hM : ((L.drop f).take (k - f)).length = k - f := by rw [List.length_take, List.length_drop]; omega
                have hcells : ∀ (j : Nat) (hj : j < k - f), (w.alloc (.cells ((pts L).toArray ++ Array.replicate cap (.int .i32 0)) 21)).drew.cell? ⟨w.heap.size, f + j, none⟩ = some (.int .i32 (((L.drop f).take (k - f))[j]'(by omega) : Nat)) := fun j hj => by
                  rw [HC.out (f + j) (by omega), List.getElem_take, List.getElem_drop]
                have HE2 : Hid ((⟨(((L.drop f).take (k - f)).flatMap enc).toArray⟩ : ByteArray) = ⟨((front ws m L).flatMap enc).toArray⟩) := Lib.hid (by rw [HE.out])
                by_cases hcf : L.length + cap = f
                · omega
                · have hcb := conv_part w.heap.size f (k - f) (L.length + cap - f) ((L.drop f).take (k - f)) hM (W := (w.alloc (.cells ((pts L).toArray ++ Array.replicate cap (.int .i32 0)) 21)).drew) hcells
                  clear hcells hM HC
                  go_wp2
                  go_ret
                  exact ⟨ret_str HE2.out, by go_grown⟩
              · have HP' : Hid (∀ (j : Nat) (hj : j < L.length), k - 1 ≤ j → ws L[j] = true) := Lib.hid (fun j hj hjk => by
                  by_cases hjk2 : j = k - 1
                  · subst hjk2; rw [HW.out]; exact hbb
                  · exact HP.out j hj (by omega))
                go_wp2
                go_round
                case rel => exact ⟨k - 1, by omega, by omega, by first | rfl | (rw [hk4]) | go_num, HP'⟩
                case measure => first | (simp [intOf]; done) | (simp [intOf]; omega)
            · have HE := Lib.hid (strip_end L hf hfk hk HL.out HP.out (.inl (by omega)))
              have hkf : k = f := by omega
              have HE0 : Hid ((⟨#[]⟩ : ByteArray) = ⟨((front ws m L).flatMap enc).toArray⟩) := Lib.hid (by rw [HE.out, hkf, Nat.sub_self]; rfl)
              have hcz := conv_zero w.heap.size
              clear HC
              subst hkf
              by_cases hcf : L.length + cap = k
              · go_wp2
                go_ret
                exact ⟨ret_str HE0.out, by go_grown⟩
              · go_wp2
                go_ret
                exact ⟨ret_str HE0.out, by go_grown⟩
    · have hlead := lead_eq ws m f L hfm hf (fun j hj hjf => HQ.out j hj hjf) (.inr (.inl (by omega)))
      have HL := Lib.hid hlead
      clear hlead
      go_wp2_with fail
      go_loop [7] (fun i => ∃ k : Nat, f ≤ k ∧ k ≤ L.length ∧ i = .int .i64 k ∧ Hid (∀ (j : Nat) (hj : j < L.length), k ≤ j → ws L[j] = true)) (fun i => (intOf i).toNat - f)
      case atStart => exact ⟨L.length, hf, Nat.le_refl _, rfl, Lib.hid (fun j hj hs => absurd hj (by omega))⟩
      case round =>
        obtain ⟨k, hfk, hk, rfl, HP⟩ := hrel
        by_cases hk0 : f < k
        · have hlt : k - 1 < L.length := by omega
          have hcell := HC.out (k - 1) hlt
          obtain ⟨c, hc⟩ : ∃ c, L[k - 1] = c := ⟨_, rfl⟩
          rw [hc] at hcell
          have hk1 : (1 : Int) ≤ k := by omega
          have hk2 : (f : Int) < k := by omega
          have hk3 : ((k : Int) - 1).toNat = k - 1 := by omega
          have hk4 : (k : Int) - 1 = ((k - 1 : Nat) : Int) := by omega
          have HW : Hid (ws L[k - 1] = ws c) := Lib.hid (by rw [hc])
          clear hc
          go_wp2_with fail
          refine (horiz_any _ _).mono ?_
          rintro e w1 ⟨rfl, rfl⟩
          rw [ws_int]
          cases hbb : ws c
          · have HE := Lib.hid (strip_end L hf hfk hk HL.out HP.out (.inr ⟨hk0, by rw [HW.out]; exact hbb⟩))
            have hM : ((L.drop f).take (k - f)).length = k - f := by rw [List.length_take, List.length_drop]; omega
            have hcells : ∀ (j : Nat) (hj : j < k - f), (w.alloc (.cells ((pts L).toArray ++ Array.replicate cap (.int .i32 0)) 21)).drew.cell? ⟨w.heap.size, f + j, none⟩ = some (.int .i32 (((L.drop f).take (k - f))[j]'(by omega) : Nat)) := fun j hj => by
              rw [HC.out (f + j) (by omega), List.getElem_take, List.getElem_drop]
            have HE2 : Hid ((⟨(((L.drop f).take (k - f)).flatMap enc).toArray⟩ : ByteArray) = ⟨((front ws m L).flatMap enc).toArray⟩) := Lib.hid (by rw [HE.out])
            exfalso
            omega
          · have HP' : Hid (∀ (j : Nat) (hj : j < L.length), k - 1 ≤ j → ws L[j] = true) := Lib.hid (fun j hj hjk => by
              by_cases hjk2 : j = k - 1
              · subst hjk2; rw [HW.out]; exact hbb
              · exact HP.out j hj (by omega))
            go_wp2
            go_round
            case rel => exact ⟨k - 1, by omega, by omega, by first | rfl | (rw [hk4]) | go_num, HP'⟩
            case measure => first | (simp [intOf]; done) | (simp [intOf]; omega)
        · have HE := Lib.hid (strip_end L hf hfk hk HL.out HP.out (.inl (by omega)))
          have hkf : k = f := by omega
          have HE0 : Hid ((⟨#[]⟩ : ByteArray) = ⟨((front ws m L).flatMap enc).toArray⟩) := Lib.hid (by rw [HE.out, hkf, Nat.sub_self]; rfl)
          have hcz := conv_zero w.heap.size
          clear HC
          subst hkf
          have hkl : k = L.length := by omega
          by_cases hcap0 : cap = 0
          · have hcf : L.length + cap = k := by omega
            go_wp2
            go_ret
            exact ⟨ret_str HE0.out, by go_grown⟩
          · have hcf : ¬ L.length + cap = k := by omega
            go_wp2
            go_ret
            exact ⟨ret_str HE0.out, by go_grown⟩
end Go.Proofs.YthdlekfnmabldaaDoor.fnLinesStripped
