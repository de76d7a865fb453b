/-
  FnSplitBoth: the specification's side: code points, overlaps, what stands in what.
-/
import Derived.Test.YtekfehoabcbcfaaOwn
import Derived.Test.YtekfehoabcbcfaaEncPoint
import Derived.Test.YtekfehoabcbcfaaSplitLaw
import Derived.IntWalk
import Derived.WalkSmall
namespace Go.Proofs.Ytekfehoabcbcfaa.fnSplitBoth
open Go.RowKit Go.Proofs.Ytekfehoabcbcfaa.fnEncodeExact Go.Proofs.Ytekfehoabcbcfaa.pts
set_option linter.unusedSimpArgs false
set_option linter.unusedVariables false

theorem infoInt : (Try.prog.info? 3).map (fun i => (i.zero, i.size, i.bytes)) = some (some (.int .i64 0), 1, 8) := by kernel_rfl

def ints (L : List Nat) : List Value := L.map fun r => .int .i64 (Int.ofNat r)

/-- What is told of a text: its code points, or that it is none. -/
def Got (s : ByteArray) (w : World) (e : Ending) (w' : World) : Prop :=
  ((∃ v L, e = .returned (.tuple #[v, .bool true]) ∧ Upto s s.size L ∧ w'.ownsRow w.heap.size 3 1 v L.length (ints L)) ∨ e = .returned (.tuple #[.slice none 0 0, .bool false])) ∧ Below w.heap.size w w'

set_option maxRecDepth 100000 in
theorem units_any (s : ByteArray) (hz : s.size ≤ 2000) (w : World) :
    Calls Try.prog 8 #[.string s] w (Got s w) := by
  go_enter Try.func8, Try.ntmps8
  go_wp2_with fail
  go_loopw [4, 5] (fun v i wr => ∃ (k : Nat) (L : List Nat), i = .int .i64 k ∧ Upto s k L ∧ wr.ownsRow w.heap.size 3 1 v L.length (ints L) ∧ Below w.heap.size w wr) (fun _ i _ => s.size - (intOf i).toNat)
  case atStart => exact ⟨0, [], rfl, .zero, own_new w _, by go_grown⟩
  case round =>
    obtain ⟨k, L, rfl, hup, hown, hbel⟩ := hrel
    have hsz := hbel.size
    have hk := hup.le.1
    have hL := hup.le.2
    have HU := Lib.hid hup
    have HO := Lib.hid hown
    clear hup hown
    by_cases hlt : k < s.size
    · go_wp2_with fail
      refine (point_any s k hlt hz _).mono ?_
      rintro e w1 ⟨r, n, rfl, hp, rfl⟩
      rcases hp with rfl | hp
      · go_wp2
        go_ret2
        exact ⟨.inr rfl, hbel⟩
      have hn : ¬ (n : Int) = 0 := by have := hp.pos; omega
      have hn2 := hp.fits
      have hn3 := hp.pos
      have HP := Lib.hid hp
      clear hp
      go_wp2_with (at_builtin; refine wpList_append_run rfl (.tmp 21) (.tmp 23) 22 rfl (app1 (wr := wr) (B := w.heap.size) 22 22 3 Try.underlying22 infoInt rfl HO.out hsz (World.grownBy_alloc _ _ none) (by omega) (by omega) (.int .i64 (Int.ofNat r)) rfl _ _ (by simp)) ?_; rintro v1 w2 ⟨hown, hg, hb⟩)
      go_roundw
      case rel => exact ⟨k + n, L ++ [r], by go_num, HU.out.step HP.out, by simpa [ints] using hown, (hbel.grown (World.grownBy_alloc _ _ none) hsz (fun b hb => by cases hb)).grown hg (by simp; omega) (fun b h => (hb b h).1)⟩
      case measure => simp [intOf]; omega
    · obtain rfl : k = s.size := by omega
      go_wp2
      go_ret2
      exact ⟨.inl ⟨_, L, rfl, HU.out, HO.out⟩, hbel⟩

/-- What is told of a text of at most 2000 bytes. -/
def Got9 (s : ByteArray) (w : World) (e : Ending) (w' : World) : Prop :=
  ((∃ v L, e = .returned (.tuple #[v, .bool true]) ∧ s.size ≤ 2000 ∧ Upto s s.size L ∧ w'.ownsRow w.heap.size 3 1 v L.length (ints L)) ∨ e = .returned (.tuple #[.slice none 0 0, .bool false])) ∧ Below w.heap.size w w'

theorem units9_any (s : ByteArray) (w : World) :
    Calls Try.prog 4 #[.string s] w (Got9 s w) := by
  by_cases hz : (2000 : Int) < s.size
  · go_enter Try.func4, Try.ntmps4
    go_wp2
    go_ret2
    exact ⟨.inr rfl, by go_grown⟩
  · go_enter Try.func4, Try.ntmps4
    go_wp2_with fail
    refine (units_any s (by omega) _).mono ?_
    rintro e w1 ⟨⟨v, L, rfl, hu, ho⟩ | rfl, hb⟩
    · have HU := Lib.hid hu
      have HO := Lib.hid ho
      clear hu ho
      go_wp2
      go_ret2
      exact ⟨.inl ⟨_, L, rfl, by omega, HU.out, HO.out⟩, hb⟩
    · go_wp2
      go_ret2
      exact ⟨.inr rfl, hb⟩

/-- A value that reads as these numbers. -/
def IntsAt (w : World) (v : Value) (L : List Nat) : Prop :=
  ∃ ao cap, v = .slice ao L.length cap ∧ L.length ≤ cap ∧ (L ≠ [] → ∃ g o, ao = some ⟨g, o, none⟩ ∧ ∀ j (h : j < L.length), w.cell? ⟨g, o + j, none⟩ = some (.int .i64 (L[j] : Nat)))

theorem ints_own {w : World} {B : Nat} {v : Value} {L : List Nat} (h : w.ownsRow B 3 1 v L.length (ints L)) : IntsAt w v L := by
  rcases own_form h with ⟨rfl, h0⟩ | ⟨g, cap, rfl, -, -, hle, -⟩
  · exact ⟨none, 0, by rw [h0], by omega, fun hne => absurd (List.eq_nil_of_length_eq_zero h0) hne⟩
  · refine ⟨_, cap, rfl, hle, fun _ => ⟨g, 0, rfl, fun j hj => ?_⟩⟩
    rw [Nat.zero_add]
    exact own_cell h rfl hj (by unfold ints; rw [List.getElem?_map, List.getElem?_eq_getElem hj]; rfl)

theorem ints_nil (w : World) : IntsAt w (.slice none 0 0) [] := ⟨none, 0, rfl, Nat.le_refl _, fun h => absurd rfl h⟩

theorem IntsAt.below {w w' : World} {v : Value} {L : List Nat} (h : IntsAt w v L) (hb : Below w.heap.size w w') : IntsAt w' v L := by
  obtain ⟨ao, cap, h1, h2, h3⟩ := h
  refine ⟨ao, cap, h1, h2, fun hne => ?_⟩
  obtain ⟨g, o, h4, h5⟩ := h3 hne
  exact ⟨g, o, h4, fun j hj => cell_later hb (h5 j hj)⟩

theorem IntsAt.cells {w : World} {v : Value} {L : List Nat} (h : IntsAt w v L) (hne : L ≠ []) : ∃ g o cap, v = .slice (some ⟨g, o, none⟩) L.length cap ∧ L.length ≤ cap ∧ ∀ j (h : j < L.length), w.cell? ⟨g, o + j, none⟩ = some (.int .i64 (L[j] : Nat)) := by
  obtain ⟨ao, cap, h1, h2, h3⟩ := h
  obtain ⟨g, o, rfl, h5⟩ := h3 hne
  exact ⟨g, o, cap, h1, h2, h5⟩

/-- Do code points stand at a place of others? -/
def stands (L : List Nat) (a : Nat) (C : List Nat) : Bool := C.isPrefixOf (L.drop a)

theorem stands_true {L C : List Nat} {a : Nat} (h : a + C.length ≤ L.length) (he : ∀ j (hj : j < C.length), C[j] = L[a + j]'(by omega)) : stands L a C = true := by
  unfold stands
  rw [List.isPrefixOf_iff_prefix, List.prefix_iff_eq_take]
  apply List.ext_getElem
  · rw [List.length_take, List.length_drop]; omega
  · intro j h1 h2
    rw [List.getElem_take, List.getElem_drop]
    exact he j h1

theorem stands_differ {L C : List Nat} {a j : Nat} (h : a + C.length ≤ L.length) (hj : j < C.length) (he : C[j] ≠ L[a + j]'(by omega)) : stands L a C = false := by
  cases hs : stands L a C with
  | false => rfl
  | true =>
    exfalso
    unfold stands at hs
    obtain ⟨t, ht⟩ := List.isPrefixOf_iff_prefix.1 hs
    apply he
    have h1 : (L.drop a)[j]? = some C[j] := by rw [← ht, List.getElem?_append_left hj, List.getElem?_eq_getElem hj]
    rw [List.getElem?_drop, List.getElem?_eq_getElem (by omega)] at h1
    exact (Option.some.inj h1).symm

theorem stands_long {L C : List Nat} {a : Nat} (hC : C ≠ []) (h : L.length < a + C.length) : stands L a C = false := by
  cases hs : stands L a C with
  | false => rfl
  | true =>
    exfalso
    unfold stands at hs
    have h1 := (List.isPrefixOf_iff_prefix.1 hs).length_le
    rw [List.length_drop] at h1
    have : 0 < C.length := List.length_pos_iff.2 hC
    omega

theorem ret_bool' {x y : Bool} (h : x = y) : Ending.returned (.bool x) = Ending.returned (.bool y) := by rw [h]

/-- Nothing but draws of the tape. -/
def Drew (w w' : World) : Prop := ∃ n, w' = w.drewN n

theorem Drew.refl (w : World) : Drew w w := ⟨0, rfl⟩
theorem Drew.more {w w' : World} (h : Drew w w') (n : Nat) : Drew w (w'.drewN n) := by
  obtain ⟨m, rfl⟩ := h
  exact ⟨m + n, World.drewN_drewN _ _ _⟩
theorem Drew.trans {a b c : World} (h : Drew a b) (k : Drew b c) : Drew a c := by
  obtain ⟨n, rfl⟩ := k
  exact h.more n
theorem Drew.below {w w' : World} (h : Drew w w') : Below w.heap.size w w' := by
  obtain ⟨n, rfl⟩ := h
  exact ⟨rfl, rfl, rfl, Nat.le_refl _, fun _ _ => rfl⟩

theorem len_pos {L : List Nat} (h : L ≠ []) : 0 < L.length := List.length_pos_iff.2 h

set_option maxRecDepth 100000 in
theorem stands_any (w : World) (vl vc : Value) (L C : List Nat) (hl : IntsAt w vl L) (hc : IntsAt w vc C) (hC : C ≠ []) (hL2 : L.length ≤ 4000) (hC2 : C.length ≤ 4000) (a : Nat) (a' : Int) (ha : a' = a) (ha2 : a ≤ 4000) :
    Calls Try.prog 10 #[vl, .int .i64 a', vc] w fun e w' => e = .returned (.bool (stands L a C)) ∧ Drew w w' := by
  subst ha
  obtain ⟨gc, oc, cc, rfl, hcc, c2⟩ := hc.cells hC
  have hp := len_pos hC
  by_cases hbig : L.length < a + C.length
  · have HE := Lib.hid (stands_long hC hbig)
    obtain ⟨ao, cap, rfl, -, -⟩ := hl
    clear hc c2
    go_enter Try.func10, Try.ntmps10
    go_wp2
    go_ret
    exact ⟨ret_bool' HE.out.symm, Drew.refl w⟩
  have hLne : L ≠ [] := by
    intro h
    have h0 : L.length = 0 := by rw [h]; rfl
    omega
  obtain ⟨gl, ol, cl, rfl, hcl, l2⟩ := hl.cells hLne
  have HL := Lib.hid l2
  have HC := Lib.hid c2
  clear l2 c2 hl hc hcc hcl
  go_enter Try.func10, Try.ntmps10
  go_wp2
  go_loopw [7] (fun i wr => ∃ k : Nat, k ≤ C.length ∧ i = .int .i64 k ∧ Hid (∀ j (hj : j < C.length), j < k → C[j] = L[a + j]'(by omega)) ∧ Drew w wr) (fun i _ => C.length - (intOf i).toNat)
  case atStart => exact ⟨0, Nat.zero_le _, rfl, Lib.hid (fun j hj h => absurd h (by omega)), Drew.refl w⟩
  case round =>
    obtain ⟨k, hk, rfl, HR, hdr⟩ := hrel
    have hbel := hdr.below
    by_cases hlt : k < C.length
    · have c1 := cell_later hbel (HC.out k hlt)
      have c2 := cell_later hbel (HL.out (a + k) (by omega))
      obtain ⟨x, hx⟩ : ∃ x, C[k] = x := ⟨_, rfl⟩
      obtain ⟨y, hy⟩ : ∃ y, L[a + k]'(by omega) = y := ⟨_, rfl⟩
      rw [hx] at c1
      rw [hy] at c2
      have HX := Lib.hid hx
      have HY := Lib.hid hy
      clear hx hy
      by_cases hxy : x = y
      · subst hxy
        have HR' : Hid (∀ j (hj : j < C.length), j < k + 1 → C[j] = L[a + j]'(by omega)) := Lib.hid (fun j hj hjk => by
          by_cases hj2 : j = k
          · subst hj2
            rw [HX.out, HY.out]
          · exact HR.out j hj (by omega))
        have i1 : (k : Int) < (C.length : Int) := by omega
        have i2 : (a : Int) + (k : Int) < (L.length : Int) := by omega
        have i3 : IntKind.i64.wrap ((a : Int) + (k : Int)) = (a : Int) + (k : Int) := IntWalk.i64_in _ (by omega)
        have i4 : (0 : Int) ≤ (a : Int) + (k : Int) := by omega
        have i5 : ((a : Int) + (k : Int)).toNat = a + k := by omega
        go_wp2_with fail
        go_quiet (fail)
        clear i3 i5
        go_wp2
        go_roundw
        case rel => exact ⟨k + 1, by omega, by go_num, HR', hdr.more _⟩
        case measure => first | (simp [intOf]; done) | (simp [intOf]; omega)
      · have HE := Lib.hid (stands_differ (L := L) (C := C) (a := a) (j := k) (by omega) hlt (by rw [HX.out, HY.out]; exact hxy))
        have hq : ((y : Int) != (x : Int)) = true := by simp; omega
        have i1 : (k : Int) < (C.length : Int) := by omega
        have i2 : (a : Int) + (k : Int) < (L.length : Int) := by omega
        have i3 : IntKind.i64.wrap ((a : Int) + (k : Int)) = (a : Int) + (k : Int) := IntWalk.i64_in _ (by omega)
        have i4 : (0 : Int) ≤ (a : Int) + (k : Int) := by omega
        have i5 : ((a : Int) + (k : Int)).toNat = a + k := by omega
        go_wp2_with fail
        go_quiet (fail)
        clear i3 i5
        go_wp2
        go_ret
        exact ⟨ret_bool' HE.out.symm, hdr.more _⟩
    · obtain rfl : k = C.length := by omega
      have HE := Lib.hid (stands_true (L := L) (C := C) (a := a) (by omega) (fun j hj => HR.out j hj hj))
      go_wp2
      go_ret
      exact ⟨ret_bool' HE.out.symm, hdr⟩

set_option maxRecDepth 100000 in
theorem overlaps_any (w : World) (v : Value) (U : List Nat) (h : IntsAt w v U) (hU : U ≠ []) (hU2 : U.length ≤ 2000) :
    Calls Try.prog 5 #[v] w fun e w' => IsB (fun b => b = false → ∀ n, 1 ≤ n → n < U.length → U.take n ≠ U.drop (U.length - n)) e ∧ Drew w w' := by
  obtain ⟨g, o, cap, rfl, hcap, hc⟩ := h.cells hU
  have HH := Lib.hid h
  have HC := Lib.hid hc
  have h0 := len_pos hU
  clear h hc
  go_enter Try.func5, Try.ntmps5
  go_wp2
  go_loopw [3] (fun i wr => ∃ k : Nat, 1 ≤ k ∧ k ≤ U.length ∧ i = .int .i64 k ∧ Hid (∀ n, 1 ≤ n → n < k → U.take n ≠ U.drop (U.length - n)) ∧ Drew w wr) (fun i _ => U.length - (intOf i).toNat)
  case atStart => exact ⟨1, Nat.le_refl _, by omega, rfl, Lib.hid (fun n h1 h2 => by omega), Drew.refl w⟩
  case round =>
    obtain ⟨k, hk1, hk, rfl, HR, hdr⟩ := hrel
    have hbel := hdr.below
    by_cases hlt : k < U.length
    · have HT : Hid (IntsAt wr (.slice (some ⟨g, o, none⟩) k cap) (U.take k)) := Lib.hid (by
        refine ⟨_, cap, ?_, ?_, fun _ => ⟨g, o, rfl, fun j hj => ?_⟩⟩
        · rw [List.length_take, Nat.min_eq_left (by omega)]
        · rw [List.length_take]; omega
        · rw [List.getElem_take]
          exact cell_later hbel (HC.out j (by rw [List.length_take] at hj; omega)))
      have HH2 := Lib.hid (HH.out.below hbel)
      have HNE : Hid (U.take k ≠ []) := Lib.hid (fun h => by
        have h1 : (U.take k).length = 0 := by rw [h]; rfl
        rw [List.length_take] at h1
        omega)
      have HLN : Hid ((U.take k).length ≤ 4000) := Lib.hid (by rw [List.length_take]; omega)
      have hcap2 : k ≤ cap := by omega
      go_wp2_with fail
      refine (stands_any wr _ _ U (U.take k) HH2.out HT.out HNE.out (by omega) HLN.out (U.length - k) _ (by omega) (by omega)).mono ?_
      rintro e w1 ⟨rfl, hd1⟩
      have hd2 := hdr.trans hd1
      clear hbel
      cases hs : stands U (U.length - k) (U.take k)
      · have HR' : Hid (∀ n, 1 ≤ n → n < k + 1 → U.take n ≠ U.drop (U.length - n)) := Lib.hid (fun n h1 h2 => by
          by_cases hn : n = k
          · subst hn
            intro he
            unfold stands at hs
            rw [he] at hs
            have : (U.drop (U.length - n)).isPrefixOf (U.drop (U.length - n)) = true := List.isPrefixOf_iff_prefix.2 (List.prefix_refl _)
            rw [this] at hs
            cases hs
          · exact HR.out n h1 (by omega))
        clear hs
        go_wp2
        go_roundw
        case rel => exact ⟨k + 1, by omega, by omega, by go_num, HR', hd2⟩
        case measure => first | (simp [intOf]; done) | (simp [intOf]; omega)
      · clear hs
        go_wp2
        go_ret
        exact ⟨⟨_, rfl, fun h => by cases h⟩, hd2⟩
    · obtain rfl : k = U.length := by omega
      go_wp2
      go_ret
      exact ⟨⟨_, rfl, fun _ n h1 h2 => HR.out n h1 h2⟩, hdr⟩

set_option maxRecDepth 100000 in
theorem contains_no (w : World) (vl vc : Value) (L U : List Nat) (hl : IntsAt w vl L) (hc : IntsAt w vc U) (hU : U ≠ []) (hL2 : L.length ≤ 2000) (hU2 : U.length ≤ 2000) (hno : ∀ i, ¬ U <+: L.drop i) :
    Calls Try.prog 9 #[vl, vc] w fun e w' => e = .returned (.bool false) ∧ Drew w w' := by
  have HL := Lib.hid hl
  have HC := Lib.hid hc
  have HS : Hid (∀ k, stands L k U = false) := Lib.hid (fun k => by
    cases hs : stands L k U with
    | false => rfl
    | true => exact absurd (List.isPrefixOf_iff_prefix.1 hs) (hno k))
  obtain ⟨gc, oc, cc, rfl, -, -⟩ := hc.cells hU
  obtain ⟨ao, cap, rfl, -, -⟩ := hl
  clear hc hno
  go_enter Try.func9, Try.ntmps9
  go_wp2
  go_loopw [5] (fun i wr => ∃ k : Nat, k ≤ L.length + 1 ∧ i = .int .i64 k ∧ Drew w wr) (fun i _ => L.length + 1 - (intOf i).toNat)
  case atStart => exact ⟨0, Nat.zero_le _, rfl, Drew.refl w⟩
  case round =>
    obtain ⟨k, hk, rfl, hdr⟩ := hrel
    have hbel := hdr.below
    by_cases hlt : k ≤ L.length
    · have HL2 := Lib.hid (HL.out.below hbel)
      have HC2 := Lib.hid (HC.out.below hbel)
      clear hbel
      go_wp2_with fail
      refine (stands_any wr _ _ L U HL2.out HC2.out hU (by omega) (by omega) k _ rfl (by omega)).mono ?_
      rintro e w1 ⟨rfl, hd1⟩
      have hd2 := hdr.trans hd1
      rw [HS.out k]
      go_wp2
      go_roundw
      case rel => exact ⟨k + 1, by omega, by go_num, hd2⟩
      case measure => first | (simp [intOf]; done) | (simp [intOf]; omega)
    · clear hbel
      go_wp2
      go_ret
      exact ⟨rfl, hdr⟩
end Go.Proofs.Ytekfehoabcbcfaa.fnSplitBoth
