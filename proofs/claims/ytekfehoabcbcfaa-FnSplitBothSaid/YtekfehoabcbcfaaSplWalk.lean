/-
  FnSplitBoth: the package's doors, and the law's walk.
-/
import Derived.Test.YtekfehoabcbcfaaSplRight
namespace Go.Proofs.Ytekfehoabcbcfaa.fnSplitBoth
open Go.RowKit Go.Proofs.Ytekfehoabcbcfaa.fnEncodeExact Go.Proofs.Ytekfehoabcbcfaa.pts
set_option linter.unusedSimpArgs false
set_option linter.unusedVariables false

/-- What a split tells: the parts, as texts of code points. -/
def Split (s c : ByteArray) (w : World) (last : Value) (e : Ending) (w' : World) : Prop :=
  ∃ v D R Ms, e = .returned (.tuple #[v, last]) ∧ Parts s c D R ∧ D ++ [R] = bytesOf Ms ∧ (∀ M ∈ Ms, ∀ r ∈ M, Val r) ∧ w'.ownsRow w.heap.size 9 1 v Ms.length (cells (bytesOf Ms)) ∧ Below w.heap.size w w'

theorem split_len {s c : ByteArray} {D : List (List UInt8)} {R : List UInt8} {Ms : List (List Nat)} (hc : 1 ≤ c.size) (h : Parts s c D R) (h2 : D ++ [R] = bytesOf Ms) : Ms.length ≤ s.size + 1 ∧ 0 < Ms.length := by
  have h3 := (part_size h.2.2 hc).1
  have h4 : Ms.length = D.length + 1 := by rw [← bytesOf_len, ← h2]; simp
  omega

set_option maxRecDepth 100000 in
theorem partL_any (s c : ByteArray) (L U : List Nat) (hL : Upto s s.size L) (hU : Upto c c.size U) (hs : s.size ≤ 2000) (hc : c.size ≤ 2000) (hc0 : 1 ≤ c.size) (w : World) :
    Calls Try.prog 12 #[.string s, .string c, .float .f64 13830554455654793216] w (Split s c w .nilIface) := by
  have HLU := Lib.hid hL
  have HUU := Lib.hid hU
  clear hL hU
  go_enter Try.func12, Try.ntmps12
  go_wp2_with fail
  refine (str_any s L HLU.out hs _).mono ?_
  rintro e w1 ⟨b1, rfl, hs1, hb1⟩
  have hb2 : Below w.heap.size w w1 := below_step (Nat.le_refl _) (by go_grown) hb1
  have H1 := Lib.hid (hs1.mono (Nat.zero_le _))
  clear hs1 hb1
  go_wp2_with fail
  refine (str_any c U HUU.out hc _).mono ?_
  rintro e w2 ⟨b2, rfl, hs2, hb3⟩
  have hb4 := below_step (Nat.le_refl _) hb2 hb3
  have H1' := Lib.hid (H1.out.below hb3)
  have H2 := Lib.hid (hs2.mono (Nat.zero_le _))
  clear hs2 hb3 hb2 H1
  go_wp2_with fail
  refine (num_any _ _).mono ?_
  rintro e w3 ⟨rfl, rfl⟩
  have hbn : Below w2.heap.size w2 (w2.alloc (.cells #[.float .f64 13830554455654793216] 102)) := Below.alloc (Below.refl _ _) (Nat.le_refl _) _
  have HN : Hid ((w2.alloc (.cells #[.float .f64 13830554455654793216] 102)).cell? ⟨w2.heap.size, 0, none⟩ = some (.float .f64 13830554455654793216)) := Lib.hid (cell_at rfl rfl)
  have H1'' := Lib.hid (H1'.out.below hbn)
  have H2' := Lib.hid (H2.out.below hbn)
  have hb5 := below_step (Nat.le_refl _) hb4 hbn
  clear hbn hb4 H1' H2
  go_wp2_with fail
  refine (left_any s c L U HLU.out HUU.out hs hc hc0 _ b1 b2 _ _ H1''.out H2'.out HN.out).mono ?_
  rintro e w4 ⟨p, D, R, Ms, rfl, hp, hm, hv, ha, hb6⟩
  have hb7 := below_step (Nat.le_refl _) hb5 hb6
  have HP := Lib.hid hp
  have HM := Lib.hid hm
  have HV := Lib.hid hv
  have HA := Lib.hid ha
  have hlen := split_len hc0 hp hm
  clear hp hm hv ha hb6
  go_wp2_with fail
  refine (strs_any p Ms (by omega) HV.out _ HA.out).mono ?_
  rintro e w5 ⟨v, rfl, hown, hb8⟩
  have hb9 := below_step (Nat.le_refl _) hb7 hb8
  have HO := Lib.hid (owns_mono hown hb7.size)
  clear hown hb8
  go_wp2
  go_ret2
  exact ⟨v, D, R, Ms, rfl, HP.out, HM.out, HV.out, HO.out, hb9⟩

set_option maxRecDepth 100000 in
theorem partR_any (s c : ByteArray) (L U : List Nat) (hL : Upto s s.size L) (hU : Upto c c.size U) (hpl : Plain c.data.toList) (hs : s.size ≤ 2000) (hc : c.size ≤ 2000) (hc0 : 1 ≤ c.size) (w : World) :
    Calls Try.prog 13 #[.string s, .string c, .float .f64 4656510908468559872] w (Split s c w .nilIface) := by
  have HLU := Lib.hid hL
  have HUU := Lib.hid hU
  have HPL := Lib.hid hpl
  clear hL hU hpl
  go_enter Try.func13, Try.ntmps13
  go_wp2_with fail
  refine (str_any s L HLU.out hs _).mono ?_
  rintro e w1 ⟨b1, rfl, hs1, hb1⟩
  have hb2 : Below w.heap.size w w1 := below_step (Nat.le_refl _) (by go_grown) hb1
  have H1 := Lib.hid (hs1.mono (Nat.zero_le _))
  clear hs1 hb1
  go_wp2_with fail
  refine (str_any c U HUU.out hc _).mono ?_
  rintro e w2 ⟨b2, rfl, hs2, hb3⟩
  have hb4 := below_step (Nat.le_refl _) hb2 hb3
  have H1' := Lib.hid (H1.out.below hb3)
  have H2 := Lib.hid (hs2.mono (Nat.zero_le _))
  clear hs2 hb3 hb2 H1
  go_wp2_with fail
  refine (num_any _ _).mono ?_
  rintro e w3 ⟨rfl, rfl⟩
  have hbn : Below w2.heap.size w2 (w2.alloc (.cells #[.float .f64 4656510908468559872] 102)) := Below.alloc (Below.refl _ _) (Nat.le_refl _) _
  have HN : Hid ((w2.alloc (.cells #[.float .f64 4656510908468559872] 102)).cell? ⟨w2.heap.size, 0, none⟩ = some (.float .f64 4656510908468559872)) := Lib.hid (cell_at rfl rfl)
  have H1'' := Lib.hid (H1'.out.below hbn)
  have H2' := Lib.hid (H2.out.below hbn)
  have hb5 := below_step (Nat.le_refl _) hb4 hbn
  clear hbn hb4 H1' H2
  go_wp2_with fail
  refine (right_any s c L U HLU.out HUU.out HPL.out hs hc hc0 _ b1 b2 _ _ H1''.out H2'.out HN.out).mono ?_
  rintro e w4 ⟨p, D, R, Ms, rfl, hp, hm, hv, ha, hb6⟩
  have hb7 := below_step (Nat.le_refl _) hb5 hb6
  have HP := Lib.hid hp
  have HM := Lib.hid hm
  have HV := Lib.hid hv
  have HA := Lib.hid ha
  have hlen := split_len hc0 hp hm
  clear hp hm hv ha hb6
  go_wp2_with fail
  refine (strs_any p Ms (by omega) HV.out _ HA.out).mono ?_
  rintro e w5 ⟨v, rfl, hown, hb8⟩
  have hb9 := below_step (Nat.le_refl _) hb7 hb8
  have HO := Lib.hid (owns_mono hown hb7.size)
  clear hown hb8
  go_wp2
  go_ret2
  exact ⟨v, D, R, Ms, rfl, HP.out, HM.out, HV.out, HO.out, hb9⟩

theorem texts_any (ao : Option Addr) (n cap : Nat) (w : World) :
    Calls Try.prog 11 #[.slice ao n cap, .nilIface] w fun e w' => e = .returned (.tuple #[.slice ao n cap, .bool true]) ∧ w = w' := by
  go_enter Try.func11, Try.ntmps11
  go_wp2
  go_ret2
  exact ⟨rfl, rfl⟩

theorem textL_any (s c : ByteArray) (L U : List Nat) (hL : Upto s s.size L) (hU : Upto c c.size U) (hs : s.size ≤ 2000) (hc : c.size ≤ 2000) (hc0 : 1 ≤ c.size) (w : World) :
    Calls Try.prog 6 #[.string s, .string c, .float .f64 13830554455654793216] w (Split s c w (.bool true)) := by
  have HLU := Lib.hid hL
  have HUU := Lib.hid hU
  clear hL hU
  go_enter Try.func6, Try.ntmps6
  go_wp2_with fail
  refine (partL_any s c L U HLU.out HUU.out hs hc hc0 _).mono ?_
  rintro e w1 ⟨v, D, R, Ms, rfl, hp, hm, hv, ho, hb⟩
  obtain ⟨ao, cp, rfl⟩ := owns_slice ho
  have H := Lib.hid (And.intro hp (And.intro hm (And.intro hv ho)))
  clear hp hm hv ho
  go_wp2_with fail
  refine (texts_any _ _ _ _).mono ?_
  rintro e w2 ⟨rfl, rfl⟩
  go_wp2
  go_ret2
  exact ⟨_, D, R, Ms, rfl, H.out.1, H.out.2.1, H.out.2.2.1, H.out.2.2.2, hb⟩

theorem textR_any (s c : ByteArray) (L U : List Nat) (hL : Upto s s.size L) (hU : Upto c c.size U) (hpl : Plain c.data.toList) (hs : s.size ≤ 2000) (hc : c.size ≤ 2000) (hc0 : 1 ≤ c.size) (w : World) :
    Calls Try.prog 7 #[.string s, .string c, .float .f64 4656510908468559872] w (Split s c w (.bool true)) := by
  have HLU := Lib.hid hL
  have HUU := Lib.hid hU
  have HPL := Lib.hid hpl
  clear hL hU hpl
  go_enter Try.func7, Try.ntmps7
  go_wp2_with fail
  refine (partR_any s c L U HLU.out HUU.out HPL.out hs hc hc0 _).mono ?_
  rintro e w1 ⟨v, D, R, Ms, rfl, hp, hm, hv, ho, hb⟩
  obtain ⟨ao, cp, rfl⟩ := owns_slice ho
  have H := Lib.hid (And.intro hp (And.intro hm (And.intro hv ho)))
  clear hp hm hv ho
  go_wp2_with fail
  refine (texts_any _ _ _ _).mono ?_
  rintro e w2 ⟨rfl, rfl⟩
  go_wp2
  go_ret2
  exact ⟨_, D, R, Ms, rfl, H.out.1, H.out.2.1, H.out.2.2.1, H.out.2.2.2, hb⟩

theorem upto_one {s : ByteArray} {L M : List Nat} (h1 : Upto s s.size L) (h2 : s = ⟨(M.flatMap enc).toArray⟩) (hv : ∀ r ∈ M, Val r) : L = M := by
  have h3 := upto_rest h1
  have h4 : s.data.toList = M.flatMap enc := by rw [h2]
  have h5 : M.flatMap enc ++ [] = L.flatMap enc := by rw [List.append_nil, ← h4, h3]
  obtain ⟨L2, e1, e2⟩ := cut_head M L [] hv (upto_val h1) h5
  cases L2 with
  | nil => rw [e1, List.append_nil]
  | cons r L2 =>
    have := enc_pos r
    have h6 := congrArg List.length e2
    rw [List.flatMap_cons, List.length_append] at h6
    have h7 : ([] : List UInt8).length = 0 := rfl
    omega

theorem part_free {C : List UInt8} {D : List (List UInt8)} {R : List UInt8} {Ms : List (List Nat)} (hne : C ≠ []) (hD : ∀ x ∈ D, First C x) (hR : Free C R) (h : D ++ [R] = bytesOf Ms) (k : Nat) (hk : k < Ms.length) : Free C (Ms[k].flatMap enc) := by
  have h1 : Ms[k].flatMap enc ∈ D ++ [R] := by rw [h]; exact List.mem_map.2 ⟨_, List.getElem_mem hk, rfl⟩
  rcases List.mem_append.1 h1 with h2 | h2
  · exact first_free hne (hD _ h2)
  · have h3 : Ms[k].flatMap enc = R := by simpa using h2
    rw [h3]
    exact hR

theorem part_len {s c : ByteArray} {D : List (List UInt8)} {R : List UInt8} {Ms : List (List Nat)} (hc : 1 ≤ c.size) (h : Parts s c D R) (h2 : D ++ [R] = bytesOf Ms) (k : Nat) (hk : k < Ms.length) : (Ms[k].flatMap enc).length ≤ s.size :=
  (part_size h.2.2 hc).2 _ (by rw [h2]; exact List.mem_map.2 ⟨_, List.getElem_mem hk, rfl⟩)

set_option maxRecDepth 100000 in
theorem walk (a0 a1 : ByteArray) (w : World) (w0 : a0.size ≤ maxLen) (w1 : a1.size ≤ maxLen) :
    Calls Try.prog 3 #[.string a0, .string a1] w fun e w' => e = .returned (.bool true) ∧ Below w.heap.size w w' := by
  clear w0 w1
  by_cases z0 : (2147483647 : Int) < a0.size
  · go_enter Try.func3, Try.ntmps3
    go_wp2
    go_ret
    exact ⟨rfl, by go_grown⟩
  by_cases z1 : (2147483647 : Int) < a1.size
  · go_enter Try.func3, Try.ntmps3
    go_wp2
    go_ret
    exact ⟨rfl, by go_grown⟩
  go_enter Try.func3, Try.ntmps3
  go_wp2_with fail
  refine (units9_any a0 _).mono ?_
  rintro e w1 ⟨⟨v1, L, rfl, hs, hL, ho1⟩ | rfl, hb1⟩
  rotate_left 1
  · go_wp2_with fail
    refine (units9_any a1 _).mono ?_
    rintro e w2 ⟨⟨v2, U, rfl, hc, hU, ho2⟩ | rfl, hb2⟩
    all_goals
      have hb3 := below_step (Nat.le_refl _) hb1 hb2
      go_wp2
      go_ret
      exact ⟨rfl, hb3⟩
  have HL := Lib.hid hL
  clear hL ho1
  go_wp2_with fail
  refine (units9_any a1 _).mono ?_
  rintro e w2 ⟨⟨v2, U, rfl, hc, hU, ho2⟩ | rfl, hb2⟩
  rotate_left 1
  · have hb3 := below_step (Nat.le_refl _) hb1 hb2
    go_wp2
    go_ret
    exact ⟨rfl, hb3⟩
  have hb3 := below_step (Nat.le_refl _) hb1 hb2
  clear hb1 hb2
  have HU := Lib.hid hU
  have HI := Lib.hid (ints_own ho2)
  have hUL := hU.le.2
  obtain ⟨ao2, cp2, rfl⟩ := owns_slice ho2
  clear hU ho2
  by_cases hU0 : U.length = 0
  · have hq : ((U.length : Int) == 0) = true := by rw [hU0]; rfl
    clear hU0
    go_wp2
    go_ret
    exact ⟨rfl, hb3⟩
  have hq : ((U.length : Int) == 0) = false := by rw [beq_eq_false_iff_ne]; omega
  have HNE : Hid (U ≠ []) := Lib.hid (fun h => hU0 (by rw [h]; rfl))
  clear hU0
  go_wp2_with fail
  refine (overlaps_any w2 _ U HI.out HNE.out (by omega)).mono ?_
  rintro e w3 ⟨⟨b, rfl, hov⟩, hd4⟩
  have hb4 := hd4.below
  have hb5 := below_step (Nat.le_refl _) hb3 hb4
  have HI3 := Lib.hid (HI.out.below hb4)
  cases b
  rotate_left 1
  · go_wp2
    go_ret
    exact ⟨rfl, hb5⟩
  have HC : Hid (a1.data.toList = U.flatMap enc) := Lib.hid (upto_rest HU.out)
  have HPL : Hid (Plain a1.data.toList) := Lib.hid (by rw [HC.out]; exact plain_bytes HNE.out (upto_val HU.out) (hov rfl))
  have hc0 : 1 ≤ a1.size := by
    have h1 := flat_ne HNE.out
    rw [← HC.out] at h1
    have h2 := List.length_pos_iff.2 h1
    rw [len_list] at h2
    exact h2
  have HCN := Lib.hid (ne_of_size hc0)
  clear hov hb3 hb4 HI
  go_wp2_with fail
  refine (textL_any a0 a1 L U HL.out HU.out hs hc hc0 _).mono ?_
  rintro e w4 ⟨va, D, R, Ms, rfl, hp, hm, hv, ho, hb6⟩
  have hb7 := below_step (Nat.le_refl _) hb5 hb6
  have HI4 := Lib.hid (HI3.out.below hb6)
  have HA := Lib.hid (And.intro hp (And.intro hm (And.intro hv ho)))
  clear hp hm hv ho hb6 hb5 HI3
  go_wp2_with fail
  refine (textR_any a0 a1 L U HL.out HU.out HPL.out hs hc hc0 _).mono ?_
  rintro e w5 ⟨vb, D', R', Ms', rfl, hp, hm, hv, ho, hb8⟩
  have hb9 := below_step (Nat.le_refl _) hb7 hb8
  have HI5 := Lib.hid (HI4.out.below hb8)
  obtain ⟨rfl, rfl⟩ := cut_one HCN.out D D' R R' HA.out.1.1 hp.1 HA.out.1.2.1 hp.2.1 (HA.out.1.2.2.trans hp.2.2.symm)
  have hmm : bytesOf Ms' = bytesOf Ms := hm.symm.trans HA.out.2.1
  have hml : Ms'.length = Ms.length := by rw [← bytesOf_len, ← bytesOf_len Ms, hmm]
  rw [hmm, hml] at ho
  have HB := Lib.hid ho
  have HA5 := Lib.hid (own_below HA.out.2.2.2 hb8)
  obtain ⟨hlen, hlen0⟩ := split_len hc0 HA.out.1 HA.out.2.1
  obtain ⟨aoA, cpA, rfl⟩ := owns_slice HA5.out
  obtain ⟨aoB, cpB, rfl⟩ := owns_slice HB.out
  clear hp hm hv ho hb8 hb7 hmm hml HI4
  have hq2 : ((Ms.length : Int) == 0) = false := by rw [beq_eq_false_iff_ne]; omega
  go_wp2_with fail
  rcases own_form HA5.out with ⟨-, h0⟩ | ⟨gA, capA, hvA, -⟩
  · omega
  rcases own_form HB.out with ⟨-, h0⟩ | ⟨gB, capB, hvB, -⟩
  · omega
  simp only [Value.slice.injEq, true_and] at hvA hvB
  obtain ⟨rfl, rfl⟩ := hvA
  obtain ⟨rfl, rfl⟩ := hvB
  go_loopw [13] (fun i wr => ∃ k : Nat, k ≤ Ms.length ∧ i = .int .i64 k ∧ Below w5.heap.size w5 wr) (fun i _ => Ms.length - (intOf i).toNat)
  case atStart => exact ⟨0, Nat.zero_le _, rfl, Below.refl _ _⟩
  case round =>
    obtain ⟨k, hk, rfl, hbel⟩ := hrel
    by_cases hlt : k < Ms.length
    · have hcl := cells_at (bytesOf Ms) k (by rw [bytesOf_len]; exact hlt)
      have cA := cell_later hbel (own_cell HA5.out rfl hlt hcl)
      have cB := cell_later hbel (own_cell HB.out rfl hlt hcl)
      have hget : (bytesOf Ms)[k]'(by rw [bytesOf_len]; exact hlt) = Ms[k].flatMap enc := by simp [bytesOf]
      rw [hget] at cA cB
      have HFR := Lib.hid (part_free HCN.out HA.out.1.1 HA.out.1.2.1 HA.out.2.1 k hlt)
      have HVK := Lib.hid (HA.out.2.2.1 _ (List.getElem_mem hlt))
      have HSZ : Hid ((ByteArray.mk (Ms[k].flatMap enc).toArray).size ≤ 2000) := Lib.hid (by
        have h1 : (ByteArray.mk (Ms[k].flatMap enc).toArray).size = (Ms[k].flatMap enc).length := by
          show (Ms[k].flatMap enc).toArray.size = _
          simp
        have := part_len hc0 HA.out.1 HA.out.2.1 k hlt
        rw [h1]
        omega)
      have HX : Hid ((ByteArray.mk (Ms[k].flatMap enc).toArray) = ⟨(Ms[k].flatMap enc).toArray⟩) := Lib.hid rfl
      have i1 : (k : Int) < (Ms.length : Int) := by omega
      clear hcl hget
      have HUN := Lib.hid (units_any ⟨(Ms[k].flatMap enc).toArray⟩ HSZ.out wr)
      generalize hx : (⟨(Ms[k].flatMap enc).toArray⟩ : ByteArray) = x at cA cB HUN HSZ
      have HXX := Lib.hid hx
      clear hx HX
      have hself : (x.toList != x.toList) = false := by simp
      go_wp2_with fail
      refine HUN.out.mono ?_
      rintro e w6 ⟨⟨v6, M, rfl, hM, ho6⟩ | rfl, hb6⟩
      · have hMe : M = Ms[k] := upto_one hM HXX.out.symm HVK.out
        have hML := hM.le.2
        have hI6 := ints_own ho6
        obtain ⟨ao6, cp6, rfl⟩ := owns_slice ho6
        have HI6 := Lib.hid hI6
        have hb7 := below_step (Nat.le_refl _) hbel hb6
        have HIU := Lib.hid (HI5.out.below hb7)
        have HNO : Hid (∀ i, ¬ U <+: M.drop i) := Lib.hid (fun i hi => by
          rw [hMe] at hi
          have h1 := HFR.out
          rw [HC.out] at h1
          exact free_points h1 i hi)
        have HSZ2 : Hid (M.length ≤ 2000) := Lib.hid (by have := HSZ.out; omega)
        have cA6 := cell_later hb6 cA
        have cB6 := cell_later hb6 cB
        clear hM ho6 hI6 hMe cA cB hML hb6 hbel HUN
        go_wp2_with fail
        go_quiet ((go_at_call 9; exact Calls.quiet_of (contains_no _ _ _ M U HI6.out HIU.out HNE.out HSZ2.out (by omega) HNO.out)))
        go_wp2
        go_roundw
        case rel => exact ⟨k + 1, by omega, by go_num, below_drewN hb7 _⟩
        case measure => first | (simp [intOf]; done) | (simp [intOf]; omega)
      · have hb7 := below_step (Nat.le_refl _) hbel hb6
        have HIU := Lib.hid (HI5.out.below hb7)
        have HNO : Hid (∀ i, ¬ U <+: ([] : List Nat).drop i) := Lib.hid (fun i hi => by
          rw [List.drop_nil] at hi
          exact HNE.out (List.prefix_nil.1 hi))
        have HI6 := Lib.hid (ints_nil w6)
        have cA6 := cell_later hb6 cA
        have cB6 := cell_later hb6 cB
        clear cA cB hb6 hbel HUN
        go_wp2_with fail
        go_quiet ((go_at_call 9; exact Calls.quiet_of (contains_no _ _ _ [] U HI6.out HIU.out HNE.out (by simp) (by omega) HNO.out)))
        go_wp2
        go_roundw
        case rel => exact ⟨k + 1, by omega, by go_num, below_drewN hb7 _⟩
        case measure => first | (simp [intOf]; done) | (simp [intOf]; omega)
    · go_wp2
      go_ret
      exact ⟨rfl, below_step (Nat.le_refl _) hb9 hbel⟩
end Go.Proofs.Ytekfehoabcbcfaa.fnSplitBoth
