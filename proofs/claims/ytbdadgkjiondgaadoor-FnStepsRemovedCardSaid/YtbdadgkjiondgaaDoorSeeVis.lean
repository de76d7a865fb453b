/-
  FnSeen, FnStepsRemoved: impl.Visible: the names, sorted, and how each is seen.
-/
import Derived.Test.YtbdadgkjiondgaaDoorSeeImpl
import Derived.Test.YtbdadgkjiondgaaDoorSeeSort
import Derived.Sort.OwnSorted
namespace Go.Proofs.YtbdadgkjiondgaaDoor.see
open Go.RowKit Go.Maps Go.WideMaps Go.Sort
set_option linter.unusedSimpArgs false
set_option linter.unusedVariables false

abbrev byLe (ks : List Nm) : List Nm := ks.mergeSort fun x y => decide (x ≤ y)

/-- A row that the call owns, sorted. -/
theorem sort_any {w : World} {B n : Nat} {v : Value} (ks : List Nm) (hn : ks.length = n) (h : w.ownsRow B 9 1 v n (ks.map encStr)) (hsz : n < 4611686018427387904) :
    Calls Tryd.prog 15 #[v] w fun e w' => e = .returned (.tuple #[]) ∧ w'.ownsRow B 9 1 v n ((byLe ks).map encStr) ∧ w.grownBy w' v.ownBlock := by
  subst hn
  rcases h.2 with ⟨rfl, h0⟩ | ⟨g, cap, cur, rfl, hb, hg, h1, h2, h3, h4⟩
  · have hk : ks = [] := List.eq_nil_of_length_eq_zero h0
    subst hk
    refine (Tryd.sort_Strings_none _ _ w).mono ?_
    rintro e w' ⟨rfl, rfl⟩
    exact ⟨rfl, by simpa [byLe] using h, ⟨rfl, rfl, rfl, Nat.le_refl _, fun _ _ _ => rfl⟩⟩
  · have hH : Holds encStr w g 0 ks.toArray := holds_of_block hg (by simpa using h4)
    refine (Tryd.sort_Strings g 0 cap ks w hH (lt_of_block hg) hsz).mono ?_
    rintro e w' ⟨rfl, n, os, rfl⟩
    exact ⟨rfl, ownsRow_sorted (by simp [byLe]) hb hg h1 h2 h3, grownBy_sorted _⟩

theorem grown_low {w w' : World} {B B' : Nat} {v : Value} {e : TypeId} {size n : Nat} {xs : List Value} {e' : TypeId} {size' n' : Nat} {v' : Value} {xs' : List Value} (h' : w.ownsRow B' e' size' v' n' xs') (hg : w.grownBy w' v'.ownBlock) {b : Nat} (hb : b < B') : some b ≠ v'.ownBlock := row_ne_low h' hb

/-- The ways, by the list. -/
def waysL (L : Fl) (k : Nat) : List Value := (L.take k).map fun a => .int .i64 a.2

theorem waysL_succ {L : Fl} {k : Nat} {a : Nm × Int} (h : L[k]? = some a) : waysL L (k + 1) = waysL L k ++ [.int .i64 a.2] := by
  unfold waysL
  rw [List.take_add_one, h]
  simp

def namesL (L : Fl) : List Value := L.map fun a => encStr a.1

/-- What has been met. -/
structure Met (f : View) (left : Lit → Bool) (ks : List Nm) : Prop where
  nodup : ks.Nodup
  mem : ∀ x, x ∈ ks ↔ ((f x).isSome = true ∧ left (.string x) = false)
  short : ∀ x ∈ ks, x.length ≤ maxLen

theorem met_start {f : View} {D : DataW Unit} (h : Reads D f) : Met f (Maps.has D) [] := by
  refine ⟨List.nodup_nil, fun x => ⟨fun hx => absurd hx (by simp), fun hx => ?_⟩, fun x hx => absurd hx (by simp)⟩
  have h1 := (h x).1
  rw [hx.1, hx.2] at h1
  cases h1

theorem met_step {f : View} {left : Lit → Bool} {ks : List Nm} (h : Met f left ks) {x : Nm} {c : Int} (hf : f x = some c) (hl : left (.string x) = true) (hx : x.length ≤ maxLen) : Met f (fun z => left z && !z.sameKey (.string x)) (ks ++ [x]) := by
  refine ⟨?_, fun y => ?_, fun y hy => ?_⟩
  · refine List.nodup_append.2 ⟨h.nodup, by simp, fun a ha b hb => ?_⟩
    simp at hb
    subst hb
    intro e
    subst e
    have := ((h.mem a).1 ha).2
    rw [hl] at this
    cases this
  · rw [same_str, List.mem_append, h.mem]
    by_cases e : y = x
    · subst e
      simp [hf]
    · simp [e]
  · rcases List.mem_append.1 hy with h1 | h1
    · exact h.short y h1
    · simp at h1; subst h1; exact hx

theorem enc_bytes (x : ByteArray) : encStr x.data.toList = .string x := by
  show Value.string ⟨x.data.toList.toArray⟩ = _
  simp

theorem spOf_ceOf (P : Nat → PE) (ha : Nat → Option Addr) (hc : Nat → Nat) : (fun i => spOf (ceOf P ha hc i)) = fun i => spP (P i) := rfl

theorem lit_int {a b : Int} (h : DataW.lit (H := Unit) (.int .i64 a) = .lit (.int .i64 b)) : a = b := by cases h; rfl

theorem zeroInt (w : World) : (zeroValue 3).run Tryd.prog w = .ok (.int .i64 0) w := Tryd.zeroValue3 w

set_option maxRecDepth 100000 in
set_option maxHeartbeats 3200000 in
theorem Visible_any (c : Option Addr) (len cap : Nat) (P : Nat → PE) (w : World) (h : PesIn w c len cap P) (hlen : len ≤ 20) (hok : ∀ i, i < len → PeOk (P i)) (L : Fl) (hL : Says L (madeV (fun i => spP (P i)) len)) :
    Calls Tryd.prog 7 #[.slice c len cap] w
    fun e w' => ∃ v2 v3, e = .returned (.tuple #[v2, v3, .bool true]) ∧ w'.ownsRow w.heap.size 9 1 v2 L.length (namesL L) ∧ w'.ownsRow w.heap.size 3 1 v3 L.length (waysL L L.length) ∧ Below w.heap.size w w' := by
  obtain ⟨f, hf⟩ : ∃ f, f = madeV (fun i => spP (P i)) len := ⟨_, rfl⟩
  have HS := Lib.hid h
  have HO := Lib.hid hok
  rw [← hf] at hL
  have HF := Lib.hid hf
  have HL := Lib.hid hL
  clear h hok hf hL
  go_enter Tryd.func7, Tryd.ntmps7
  go_wp2_with fail
  refine (implChain_any c len cap P w HS.out hlen HO.out).mono ?_
  rintro e w1 ⟨c', cap', ha, hc, rfl, hces, hb1⟩
  have HC := Lib.hid hces
  clear hces
  go_wp2_with fail
  refine (part_any c' len cap' (ceOf P ha hc) w1 HC.out hlen (fun i hi => ⟨(HO.out i hi).rem, (HO.out i hi).strs⟩) (fun i hi => (HO.out i hi).ok)).mono ?_
  rintro e w2 ⟨g, rfl, hm, hb2⟩
  rw [spOf_ceOf, ← HF.out] at hm
  have hB2 := below_step (Nat.le_refl _) hb1 hb2
  have hs2 := hB2.size
  obtain ⟨D, hown, hR⟩ := hm
  have hsz := hown.size_le
  have HR := Lib.hid hR
  have HO2 := Lib.hid hown
  have hbl := hown.lt
  clear hown hR HS HO HC HF hb1 hb2
  go_wp2_with (at_range; refine wpList_range_own _ rfl _ 41 rfl 9 3 lawS Tryd.underlying41 _ g (12 * len) _ rfl HO2.out ?_; intro w0 hrg0 hg0 hs0)
  go_frame
  go_loopw [2] (fun v wr => ∃ (left : Lit → Bool) (cnt : Nat) (ks : List Nm), wr.ranges Tryd.prog 9 (plainElem (H := Unit) Tryd.prog 3) g w2.heap.size (12 * len) D left cnt ∧ wr.ownsRow (w2.heap.size + 1) 9 1 v ks.length (ks.map encStr) ∧ Met f left ks ∧ ks.length + cnt ≤ 12 * len ∧ w2.heap.size + 1 ≤ wr.heap.size ∧ Below w.heap.size w wr) (fun _ wr => wr.rangeLeft g w2.heap.size)
  case atStart =>
    exact ⟨_, _, [], hrg0, World.ownsRow_nil _ _ _ _, met_start HR.out, by simp; omega, by omega, hB2.grown hg0 hB2.size (fun j hj => by cases hj)⟩
  case round =>
    obtain ⟨left, cnt, ks, hrg, hrow, hmet, hnc, hs3, hbel⟩ := hrel
    have HRg := Lib.hid hrg
    have HRow := Lib.hid hrow
    have HM' := Lib.hid hmet
    have hsz2 := hbel.size
    clear hrg hrow hmet hrg0 HO2
    go_wp2_with (first
      | (at_next; refine next_si _ 3 Tryd.underlying3 rfl _ rfl g w2.heap.size (12 * len) D _ _ rfl HRg.out ?_ ?_)
      | go_in)
    · intro hc0 hl0
      have hnames : byLe ks = L.map (·.1) := sorted_names HL.out ks HM'.out.nodup (fun x => by rw [HM'.out.mem, hl0]; simp)
      have hlen2 : ks.length = L.length := by
        have := congrArg List.length hnames
        simpa [byLe] using this
      have hshort : ∀ a ∈ L, a.1.length ≤ maxLen := fun a ha => HM'.out.short a.1 ((List.mergeSort_perm ks _).mem_iff.1 (by rw [show ks.mergeSort (fun x y => decide (x ≤ y)) = L.map (·.1) from hnames]; exact List.mem_map_of_mem ha))
      have HSh := Lib.hid hshort
      have HN := Lib.hid hnames
      have hfew : L.length ≤ 240 := by omega
      have HLn := Lib.hid hlen2
      have hrow1 := HRow.out
      have hg1 := HRg.out.owns
      rename World => W0
      obtain ⟨ao, cp, rfl⟩ := owns_slice HRow.out
      rw [hlen2] at hrow1 ⊢
      have HRow1 := Lib.hid hrow1
      have HMp := Lib.hid hg1
      clear hshort hnames hlen2 hrow1 hg1 HRow HRg HM'
      go_wp2_with (go_at_call 15; refine (sort_any ks HLn.out HRow1.out (by omega)).mono ?_; rintro e w4 ⟨rfl, hown4, hg4⟩)
      rw [HN.out] at hown4
      have HM4 := Lib.hid (HMp.out.kept hg4 (row_ne_low HRow1.out (by omega)))
      have hB4 : Below w.heap.size w w4 := hbel.grown hg4 hsz2 (fun b hb => by have := (HRow1.out.lt b hb).1; omega)
      have HR4 : Hid (w4.ownsRow (w2.heap.size + 1) 9 1 (.slice ao L.length cp) L.length (namesL L)) := Lib.hid (by rw [List.map_map] at hown4; exact hown4)
      have hs4 := hg4.size
      clear hown4 hg4 HRow1 HMp
      go_wp2_with fail
      go_loopw [3, 34] (fun v i wr => ∃ k : Nat, k ≤ L.length ∧ i = .int .i64 k ∧ wr.ownsRow (w2.heap.size + 1) 3 1 v k (waysL L k) ∧ wr.ownsRow (w2.heap.size + 1) 9 1 (.slice ao L.length cp) L.length (namesL L) ∧ wr.ownsMap Tryd.prog 9 (plainElem (H := Unit) Tryd.prog 3) g (12 * len) D ∧ w2.heap.size + 1 ≤ wr.heap.size ∧ Below w.heap.size w wr) (fun _ i _ => L.length - (intOf i).toNat)
      case atStart => exact ⟨0, Nat.zero_le _, rfl, World.ownsRow_nil _ _ _ _, HR4.out, HM4.out, by omega, hB4⟩
      case round =>
        obtain ⟨k, hk, rfl, hrow, hnm, hmp, hs5, hbel5⟩ := hrel
        have HRow := Lib.hid hrow
        have HNm := Lib.hid hnm
        have HMp := Lib.hid hmp
        have hsz5 := hbel5.size
        clear hrow hnm hmp
        by_cases hlt : k < L.length
        · have hat : L[k]? = some L[k] := List.getElem?_eq_getElem hlt
          obtain ⟨hfx, hcd⟩ := get_code HL.out hat
          have hxs := HSh.out _ (List.getElem_mem hlt)
          generalize L[k] = a at *
          obtain ⟨nm, hd⟩ := a
          have HW := Lib.hid (waysL_succ hat)
          have HC := Lib.hid hcd
          have hcell : ∃ gb, ao = some ⟨gb, 0, none⟩ ∧ wr.cell? ⟨gb, k, none⟩ = some (.string ⟨nm.toArray⟩) := by
            rcases own_form HNm.out with ⟨h1, h2⟩ | ⟨gb, cap2, h1, -⟩
            · omega
            · have e1 : ao = some ⟨gb, 0, none⟩ := by simp at h1; exact h1.1
              subst e1
              refine ⟨gb, rfl, ?_⟩
              have := HNm.out.cellAt k (by omega)
              rw [this]
              unfold namesL
              rw [List.getElem?_map, hat]
              rfl
          obtain ⟨gb, rfl, hcell⟩ := hcell
          have hkey : keyOf Tryd.prog 9 (.string ⟨nm.toArray⟩) = some (.string nm) := keyOf_string_mk (s := ⟨nm.toArray⟩) Tryd.underlying9 (by simpa [ByteArray.size] using hxs)
          have HKey := Lib.hid hkey
          have hrd := (HR.out nm).2 _ hfx
          have HRd := Lib.hid hrd
          obtain ⟨ao3, cp3, rfl⟩ := owns_slice HRow.out
          clear hat hfx hcd hxs hkey hrd
          go_wp2_with (first
            | (at_lookup; refine wpList_lookup_own_int _ rfl _ _ 41 rfl 9 3 .i64 lawS Tryd.underlying41 Tryd.underlying3 (zeroInt _) g (12 * len) _ rfl HMp.out _ _ rfl HKey.out ?_; intro cc hcc hwf; have hcc2 : cc = conv hd := lit_int (hcc.symm.trans (HRd.out _)); subst hcc2; clear hcc hwf)
            | (go_at_call 16; refine (seen_any _ HC.out _).mono ?_; rintro e w5 ⟨rfl, rfl⟩)
            | (at_builtin; refine wpList_append_run rfl (.tmp 38) (.tmp 43) 25 rfl (app1 (wr := wr) (B := w2.heap.size + 1) 25 25 3 Tryd.underlying25 infoInt rfl HRow.out hs5 (grown_of_below (by go_grown)) (by omega) (by omega) (.int .i64 hd) rfl _ _ (cell_at_new (by simp))) ?_; rintro v1 w6 ⟨hown2, hg, hbb⟩; have HOw := Lib.hid hown2; have HG := Lib.hid hg; have HBB := Lib.hid hbb; clear hown2 hg hbb))
          go_roundw
          case rel =>
            have hlow : ∀ b, b < w2.heap.size + 1 → some b ≠ (Value.slice ao3 k cp3).ownBlock := fun b hb => row_ne_low HRow.out hb
            have hsz6 := HG.out.size
            simp at hsz6
            exact ⟨k + 1, by omega, by go_num, by rw [HW.out]; exact HOw.out, (HNm.out.alloc _).kept HG.out (own_ne HNm.out HRow.out (by decide)), (HMp.out.alloc _).kept HG.out (hlow _ (by omega)), by omega, (hbel5.alloc (by omega) _).grown HG.out (by simp; omega) (fun b hb => by have := (HBB.out b hb).1; omega)⟩
          case measure => first | (simp [intOf]; done) | (simp [intOf]; omega)
        · obtain rfl : k = L.length := by omega
          obtain ⟨ao3, cp3, rfl⟩ := owns_slice HRow.out
          go_wp2
          go_ret3
          exact ⟨_, _, rfl, owns_mono HNm.out (by omega), owns_mono HRow.out (by omega), hbel5⟩
    · intro x c w3 cnt1 hxs hwc hlx hat hrg1 hlt hg1 hs1 hen
      have hgx := reads_at HR.out hat
      have HMS := Lib.hid (met_step HM'.out hgx hlx (show x.data.toList.length ≤ maxLen by rw [Array.length_toList]; exact hxs))
      have HR1 := Lib.hid hrg1
      clear hrg1 hat hlx hgx
      obtain ⟨ao, cp, rfl⟩ := owns_slice HRow.out
      have HRow3 := Lib.hid (HRow.out.kept hg1 (.inr (fun e => row_ne_low HRow.out (show w2.heap.size < w2.heap.size + 1 by omega) e.symm)))
      go_wp2_with (first
        | (at_builtin; refine wpList_append_run rfl (.tmp 26) (.tmp 28) 24 rfl (app1 (wr := w3) (B := w2.heap.size + 1) 24 24 9 Tryd.underlying24 infoStr rfl HRow3.out (by omega) (grown_of_below (by go_grown)) (by omega) (by omega) (.string x) rfl _ _ (cell_at_new hs1)) ?_; rintro v1 w4 ⟨hown2, hg, hbb⟩; have HOw := Lib.hid hown2; have HG := Lib.hid hg; have HBB := Lib.hid hbb; clear hown2 hg hbb)
        | go_in)
      have hlow : ∀ b, b < w2.heap.size + 1 → some b ≠ (Value.slice ao ks.length cp).ownBlock := fun b hb => row_ne_low HRow.out hb
      have hrg4 := (HR1.out.alloc (.cells #[.string x] 9)).kept HG.out (hlow _ (by omega)) (hlow _ (by omega))
      refine ⟨⟨_, cnt1, ks ++ [x.data.toList], hrg4, ?_, HMS.out, by simp; omega, by have := HG.out.size; simp at this; omega, ?_⟩, ?_⟩
      · rw [List.map_append, List.length_append]
        show w4.ownsRow _ _ _ _ _ (ks.map encStr ++ [encStr x.data.toList])
        rw [enc_bytes]
        exact HOw.out
      · exact ((hbel.grown hg1 hsz2 (fun j hj => by cases hj; omega)).alloc (by omega) _).grown HG.out (by simp; omega) (fun b hb => by have := (HBB.out b hb).1; omega)
      · rw [hrg4.left_eq, HRg.out.left_eq]; exact hlt
end Go.Proofs.YtbdadgkjiondgaaDoor.see
