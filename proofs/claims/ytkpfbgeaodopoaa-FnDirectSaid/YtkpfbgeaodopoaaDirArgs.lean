/-
  FnDirect: the builder's arguments.
-/
import Derived.Test.YtkpfbgeaodopoaaDirBoth
namespace Go.Proofs.Ytkpfbgeaodopoaa.fnDirect
open Go.RowKit
set_option linter.unusedSimpArgs false
set_option linter.unusedVariables false

/-- An argument's kid. -/
def Arg (E : Nat → Nd) (k : Nat) : Prop := (E k).kind = 34 ∧ ∃ a, kids E k = [a] ∧ ex (E a)

theorem Shape.arg {E : Nat → Nd} {k : Nat} (h : Shape E (E k) (kids E k)) (hk : (E k).kind = 34) : Arg E k := by
  refine ⟨hk, ?_⟩
  cases h with
  | one a _ _ h hx => exact ⟨a, h, hx⟩
  | _ => simp_all

/-- Arguments with names stand behind all others. -/
def ArgOrd (E : Nat → Nd) (l : List Nat) : Prop := ∀ i, 0 < i → i < l.length → ∀ j k, l[i - 1]? = some j → l[i]? = some k → (E j).text.size ≠ 0 → (E k).text.size ≠ 0

theorem infoCsa : (Try.prog.info? 206).map (fun i => (i.zero, i.size, i.bytes)) = some (some (.agg #[.nilIface, .slice none 0 0]), 2, 40) := by kernel_rfl
theorem infoNam : (Try.prog.info? 208).map (fun i => (i.zero, i.size, i.bytes)) = some (some (.agg #[.slice none 0 0, .string ⟨#[]⟩, .slice none 0 0, .nilIface, .slice none 0 0]), 5, 104) := by kernel_rfl

theorem text_isEmpty {t : ByteArray} (h : t.size ≠ 0) : t.toList.isEmpty = false := by
  rw [ByteArray.toList_eq]
  cases hl : t.data.toList with
  | nil => exact absurd (by rw [← ByteArray.size_data, ← Array.length_toList, hl]; rfl) h
  | cons a l => rfl

theorem text_empty {t : ByteArray} (h : t.size = 0) : t = ⟨#[]⟩ := by
  obtain ⟨⟨l⟩⟩ := t
  cases l with
  | nil => rfl
  | cons a l => exact absurd h (by simp [ByteArray.size])

set_option maxRecDepth 100000 in
set_option maxHeartbeats 3200000 in
theorem arguments_any (c : Ctx) (N : Nat) (ih : NodeTo c N) (hf : Fit c.E c.n) (hn : c.n ≤ 400) (l : List Nat) (lo hi : Nat) (lv : Value) (w : World) (P : Nat → Value) (hK : Kin (sz c.E) lo hi l) (hhi : hi ≤ c.n) (hp : ∀ k ∈ l, Arg c.E k) (ho : ArgOrd c.E l) (hs : ∀ k, lo ≤ k → k + sz c.E k ≤ hi → sz c.E k ≤ N) (hb : Bld c w P) (hl : IntsIn c w lv l) :
    Calls Try.prog 52 #[.pointer (some ⟨c.bb, 0, none⟩), lv] w fun e w' => ∃ v1 v2 P', e = .returned (.agg #[v1, v2]) ∧ (∃ ao n cap, v1 = .slice ao n cap) ∧ (∃ ao n cap, v2 = .slice ao n cap) ∧ St c w P lo hi w' P' := by
  obtain ⟨ao, cap, rfl⟩ := hl.form
  have hlen := hK.len
  have HB := Lib.hid hb
  have HL := Lib.hid hl
  have HK := Lib.hid hK
  have HP := Lib.hid hp
  have HO := Lib.hid ho
  have HS := Lib.hid hs
  have IH := Lib.hid ih
  have HF := Lib.hid hf
  have hpb := hb.ltp
  have hbb := hb.ltb
  have hab' := hb.lta hf.1
  clear hb hl hK hp ho hs ih hf
  go_enter Try.func52, Try.ntmps52
  go_wp2_with fail
  go_loopw [12] (fun i wr => ∃ (j m : Nat) (P1 : Nat → Value) (v1 v2 : Value) (p1 p2 : Nat) (xs ys : List Value), i = .int .i64 j ∧ j ≤ l.length ∧ Ahead l lo hi j m ∧ St c w P lo m wr P1 ∧ wr.heap[w.heap.size]? = some (.cells #[.slice none 0 0, .slice none 0 0] 49 (0, 0)) ∧ wr.heap[w.heap.size + 1]? = some (.cells #[v1, v2] 49 (0, 0)) ∧ wr.ownsRow w.heap.size 206 2 v1 p1 xs ∧ wr.ownsRow w.heap.size 208 5 v2 p2 ys ∧ p1 ≤ j ∧ p2 ≤ j ∧ Hid (0 < p2 → 0 < j ∧ ∀ k, l[j - 1]? = some k → (c.E k).text.size ≠ 0)) (fun i _ => l.length - (intOf i).toNat)
  case atStart => exact ⟨0, lo, P, _, _, 0, 0, [], [], rfl, Nat.zero_le _, Ahead.zero HK.out, (St.refl HB.out lo).below (by go_grown), block_alloc (block_new _ _) _, by simpa using block_new (w.alloc _) _, World.ownsRow_nil _ _ _ _, World.ownsRow_nil _ _ _ _, Nat.le_refl _, Nat.le_refl _, Lib.hid (fun h => absurd h (by omega))⟩
  case round =>
    obtain ⟨j, m, P1, v1, v2, p1, p2, xs, ys, rfl, hj, hA, hSt, hrb, hob, hr1, hr2, hp1, hp2, HNM⟩ := hrel
    have HA := Lib.hid hA
    have HT := Lib.hid hSt
    have HRB := Lib.hid hrb
    have HOB := Lib.hid hob
    have HR1 := Lib.hid hr1
    have HR2 := Lib.hid hr2
    have HBr := Lib.hid hSt.bld
    have hsr := hSt.grown.size
    have hxr := lt_of_block hrb
    have hxo := lt_of_block hob
    clear hA hSt hrb hob hr1 hr2
    by_cases hlt : j < l.length
    · obtain ⟨k, hk⟩ : ∃ k, l[j]? = some k := ⟨_, List.getElem?_eq_getElem hlt⟩
      obtain rfl := HA.out.1 k hk
      have hkm := List.mem_of_getElem? hk
      obtain ⟨k1, k2', k3'⟩ := HK.out.get hk
      have hkn : m < c.n := by omega
      have HLr := Lib.hid (HL.out.st HT.out)
      obtain ⟨g, o, rfl, hg, hc⟩ := HLr.out.get hk
      have HKk := Lib.hid hk
      obtain ⟨hk34, a, h0, hxa⟩ := HP.out m hkm
      obtain ⟨a1, a2, a3, a4, a5⟩ := HF.out.kid1 hkn h0
      have H1 := Lib.hid a1
      have H3 := Lib.hid a3
      have H0 := Lib.hid h0
      have b1 : m < a := by omega
      have hnx : ¬ ex (c.E m) := by unfold ex; omega
      have HK34 := Lib.hid hk34
      have HNM2 : Hid ((c.E m).text.size = 0 → p2 = 0) := Lib.hid (fun ht => by
        by_cases h : p2 = 0
        · exact h
        · obtain ⟨h1, h2⟩ := HNM.out (by omega)
          obtain ⟨k', hk'⟩ : ∃ k', l[j - 1]? = some k' := ⟨_, List.getElem?_eq_getElem (by omega)⟩
          exact absurd ht (HO.out j h1 hlt k' m hk' HKk.out (h2 k' hk')))
      clear hk a1 a3 h0 hk34
      have c0 := HBr.out.c0
      obtain ⟨q0, q1, q2, q3, q4⟩ := HBr.out.t m hkn
      go_wp2_with fail
      go_region_held3 (fun w' => w'.cell? ⟨c.bb, 0, none⟩ = some (.slice (some c.a) c.n c.cap) ∧ w'.cell? (c.a.add (m * 5)) = some (.int .i64 (c.E m).kind) ∧ w'.cell? ⟨(c.a.add (m * 5)).block, (c.a.add (m * 5)).off + 1, none⟩ = some (.int .i64 (c.E m).op) ∧ w'.cell? ⟨(c.a.add (m * 5)).block, (c.a.add (m * 5)).off + 2, none⟩ = some (.string (c.E m).text) ∧ w'.cell? ⟨(c.a.add (m * 5)).block, (c.a.add (m * 5)).off + 3, none⟩ = some (.int .i64 (c.E m).flag) ∧ w'.cell? ⟨(c.a.add (m * 5)).block, (c.a.add (m * 5)).off + 4, none⟩ = some (.int .i64 (c.E m).size)) (first | with_reducible exact ⟨c0, q0, q1, q2, q3, q4⟩ | with_reducible exact ⟨cell_past _ c0, cell_past _ q0, cell_past _ q1, cell_past _ q2, cell_past _ q3, cell_past _ q4⟩ | with_reducible exact ⟨past5 (cell_later hb1 c0) n2, past5 (cell_later hb1 q0) n3, past5 (cell_later hb1 q1) n3, past5 (cell_later hb1 q2) n3, past5 (cell_later hb1 q3) n3, past5 (cell_later hb1 q4) n3⟩ | with_reducible exact ⟨cell_later hb1 c0, cell_later hb1 q0, cell_later hb1 q1, cell_later hb1 q2, cell_later hb1 q3, cell_later hb1 q4⟩ | with_reducible exact ⟨cell_past _ (cell_later hb1 c0), cell_past _ (cell_later hb1 q0), cell_past _ (cell_later hb1 q1), cell_past _ (cell_later hb1 q2), cell_past _ (cell_later hb1 q3), cell_past _ (cell_later hb1 q4)⟩ | with_reducible exact ⟨cell_drew c0, cell_drew q0, cell_drew q1, cell_drew q2, cell_drew q3, cell_drew q4⟩ | with_reducible exact ⟨cell_drew (cell_past _ c0), cell_drew (cell_past _ q0), cell_drew (cell_past _ q1), cell_drew (cell_past _ q2), cell_drew (cell_past _ q3), cell_drew (cell_past _ q4)⟩) (first | (go_at_call 43; refine (kids_any c m _ P1 HF.out hn hkn (HBr.out.below (by go_grown))).mono ?_; rintro e w1 ⟨v, rfl, h1, h2⟩; have hb1 : Below wr.heap.size wr w1 := below_step (Nat.le_refl _) (by go_grown) h2; have n0 := World.new_ne w1 _ (cell_later hb1 c0); have n1 := World.new_ne w1 _ (cell_later hb1 q0); obtain ⟨ao, cap, rfl⟩ := (h1 _ (fun _ _ _ => rfl)).form; have HI := Lib.hid (show Far c _ w1 _ (kids c.E m) from h1); clear h1; (try (have hz := kept_new h2 (n := wr.heap.size) rfl; obtain ⟨z0, z1, z2, z3, z4, y0, y1, y2, y3, y4⟩ := cells5 hz; have n2 := World.new_ne wr _ c0; have n3 := World.new_ne wr _ q0))))
      all_goals
        obtain ⟨W, nb, hW, hnb, HV⟩ : ∃ W nb, W = _ ∧ nb = _ ∧ Hid (Var c (.slice ao (kids c.E m).length cap) (kids c.E m) wr W nb (c.E m)) := by first | exact ⟨_, _, rfl, rfl, Lib.hid (var3 (x := c.E m) hb1 HI.out hz (by simp))⟩ | exact ⟨_, _, rfl, rfl, Lib.hid (var2 (x := c.E m) hb1 HI.out)⟩
        rw [← hW]
        rw [← hnb]
        clear hW hnb
        clear c0 q0 q1 q2 q3 q4 HI
        revert HV
        revert W nb
        revert ao cap
      clear h2 hb1 n0 n1
      rename_i hHeld
      clear hHeld w1
      refine ?join
      rotate_left
      · exact ?join
      intro ao cap W nb HV
      all_goals
        obtain ⟨z0, z1, z2, z3, z4, y0, y1, y2, y3, y4⟩ := cells5 HV.out.2.2.2
        have hsW := HV.out.2.1.size
        have HTW := Lib.hid ((HT.out.below HV.out.2.1).one hnx k1)
        have HRW := Lib.hid ((HV.out.2.1.block _ hxr).trans HRB.out)
        have HOW := Lib.hid ((HV.out.2.1.block _ hxo).trans HOB.out)
        have HW1 := Lib.hid (own_below HR1.out HV.out.2.1)
        have HW2 := Lib.hid (own_below HR2.out HV.out.2.1)
        have hl1 : (kids c.E m).length = 1 := by rw [H0.out]; rfl
        obtain ⟨g2, o2, rfl, hg2', hc2⟩ := HV.out.1.get (i := 0) (k := a) (by rw [H0.out]; rfl)
        rw [Nat.add_zero] at hc2
        have hG2 : some g2 ≠ some c.pb := by simpa using hg2'
        have hnb : some nb ≠ some c.pb := by have := HV.out.2.2.1; simp; omega
        have HC := Lib.hid (fun (w1 : World) (h1 : Below W.heap.size W w1) => (show St c w P lo a w1 P1 from (HTW.out.below h1).cong rfl H1.out.symm).node IH.out HB.out (by omega) (by omega) hxa (HS.out _ (by omega) (by have := H3.out; omega)) a2)
        obtain ⟨aw1, cw1, rfl⟩ := owns_slice HW1.out
        obtain ⟨aw2, cw2, rfl⟩ := owns_slice HW2.out
        rw [HK34.out] at z0
        have hbW := HV.out.2.1
        by_cases ht : (c.E m).text.size = 0
        · obtain rfl : p2 = 0 := HNM2.out ht
          have ht0 := text_empty ht
          rw [ht0] at z2
          clear ht
          have HT0 := Lib.hid ht0
          clear ht0
          have e0 : W.cell? ⟨w.heap.size + 1, 0, none⟩ = some (.slice aw1 p1 cw1) := cell_of_block HOW.out rfl
          have e1 : W.cell? ⟨w.heap.size + 1, 1, none⟩ = some (.slice aw2 (0 : Nat) cw2) := cell_of_block HOW.out rfl
          go_wp2_with (go_at_call 50; refine (count_any c _ _ _ _ _ _ (by omega) (by omega)).mono ?_; rintro e wc ⟨rfl, rfl⟩)
          go_region_law (first | (go_simp; go_at_call 31; refine (HC.out _ (by first | exact (Below.refl _ _).drew | go_grown)).mono ?_; rintro e w3 ⟨P2, T, x, rfl, -, -, -, h1, h2⟩; have hrb3 := h2.block (b := w.heap.size) (show (World.heap _)[w.heap.size]? = some (.cells #[.slice none 0 0, .slice none 0 0] 49 (0, 0)) from HRW.out) (by omega); have hob3 := h2.block (b := w.heap.size + 1) (show (World.heap _)[w.heap.size + 1]? = some (.cells #[.slice aw1 p1 cw1, .slice aw2 (0 : Nat) cw2] 49 (0, 0)) from HOW.out) (by omega); have hro3 := h2.row (show World.ownsRow _ w.heap.size 206 2 (.slice aw1 p1 cw1) p1 xs from HW1.out) hpb; have hro4 := h2.row (show World.ownsRow _ w.heap.size 208 5 (.slice aw2 (0 : Nat) cw2) 0 ys from HW2.out) hpb; have e3w := cell_of_block (i := 0) hob3 rfl; have e3w' := (fun o => cell_past o e3w); have hs3 := h2.grown.size; have H3W := Lib.hid (And.intro h1 (And.intro hrb3 (And.intro hob3 (And.intro hro3 hro4)))); clear h1 h2 hrb3 hob3 hro3 hro4) | (refine step_append rfl (.tmp 54) (.tmp 61) 46 rfl (appS (wr := w3) (B := w.heap.size) 46 46 206 Try.underlying46 infoCsa rfl (by decide) H3W.out.2.2.2.1 (by have hq : W.heap.size ≤ w3.heap.size := hs3; omega) (grown_of_below (by go_grown)) (by omega) (by omega) [.iface T (.pointer (some ⟨x, 0, none⟩)), .slice none 0 0] rfl (by intro u hu; simp at hu; rcases hu with rfl | rfl <;> rfl) _ _ (cells_new (by simp))) ?_; rintro v1 w5 ⟨hown2, hg2, hbb2⟩; have hB2 := keep_block H3W.out.2.2.1 (by go_grown) H3W.out.2.2.2.1 hg2 (by decide); have hR2 := keep_block H3W.out.2.1 (by go_grown) H3W.out.2.2.2.1 hg2 (by decide); have hO2 := World.ownsRow.kept (own_below H3W.out.2.2.2.2 (by go_grown)) hg2 (own_ne H3W.out.2.2.2.2 H3W.out.2.2.2.1 (by decide)); have e4 := cell_of_block (i := 0) hB2 rfl; have f4 := free_of_block (i := 0) hB2; obtain ⟨ao3, cp3, rfl⟩ := owns_slice hown2; have HO2 := Lib.hid (And.intro hown2 (And.intro hg2 (And.intro hB2 (And.intro hR2 hO2)))); clear hown2 hg2 hbb2 hB2 hR2 hO2))
          all_goals
            go_wp2
            go_roundw
            case rel =>
              have hs3' : W.heap.size ≤ w3.heap.size := hs3
              refine ⟨j + 1, m + sz c.E m, P2, .slice ao3 (p1 + 1) cp3, .slice aw2 (0 : Nat) cw2, p1 + 1, 0, _, _, by go_num, by omega, Ahead.succ HK.out HKk.out, ?_, block_set_other HO2.out.2.2.2.1 (by simp) _, by have := block_setCell (i := 0) (u := .slice ao3 (p1 + 1) cp3) HO2.out.2.2.1; simpa using this, ownsRow_setCell_other HO2.out.1 ((own_block_ne HO2.out.1 HO2.out.2.2.1 (by decide)).symm) _, ownsRow_setCell_other HO2.out.2.2.2.2 ((own_block_ne HO2.out.2.2.2.2 HO2.out.2.2.1 (by decide)).symm) _, by omega, by omega, Lib.hid (fun h => absurd h (by omega))⟩
              exact ((((H3W.out.1.below (by go_grown)).append HB.out hab' (own_below H3W.out.2.2.2.1 (by go_grown)) HO2.out.2.1 (by decide)).set HB.out hab' (by omega) HO2.out.2.2.1 (by decide) _)).cong rfl H3.out
            case measure => first | (simp [intOf]; done) | (simp [intOf]; omega)
        · have hemp := text_isEmpty ht
          have HT0 := Lib.hid ht
          clear ht
          have e0 : W.cell? ⟨w.heap.size + 1, 0, none⟩ = some (.slice aw1 p1 cw1) := cell_of_block HOW.out rfl
          have e1 : W.cell? ⟨w.heap.size + 1, 1, none⟩ = some (.slice aw2 p2 cw2) := cell_of_block HOW.out rfl
          go_wp2_with (go_at_call 50; refine (count_any c _ _ _ _ _ _ (by omega) (by omega)).mono ?_; rintro e wc ⟨rfl, rfl⟩)
          go_region_law (first | (go_simp; go_at_call 31; refine (HC.out _ (by first | exact (Below.refl _ _).drew | go_grown)).mono ?_; rintro e w3 ⟨P2, T, x, rfl, -, -, -, h1, h2⟩; have hrb3 := h2.block (b := w.heap.size) (show (World.heap _)[w.heap.size]? = some (.cells #[.slice none 0 0, .slice none 0 0] 49 (0, 0)) from HRW.out) (by omega); have hob3 := h2.block (b := w.heap.size + 1) (show (World.heap _)[w.heap.size + 1]? = some (.cells #[.slice aw1 p1 cw1, .slice aw2 p2 cw2] 49 (0, 0)) from HOW.out) (by omega); have hro3 := h2.row (show World.ownsRow _ w.heap.size 206 2 (.slice aw1 p1 cw1) p1 xs from HW1.out) hpb; have hro4 := h2.row (show World.ownsRow _ w.heap.size 208 5 (.slice aw2 p2 cw2) p2 ys from HW2.out) hpb; have e3w := cell_of_block (i := 1) hob3 rfl; have e3w' := (fun o => cell_past o e3w); have t3w := h2.grown.cell (show World.cell? _ ⟨nb, 2, none⟩ = some (.string (c.E m).text) from z2) hnb; have t3w' := (fun o => cell_past o t3w); have hs3 := h2.grown.size; have H3W := Lib.hid (And.intro h1 (And.intro hrb3 (And.intro hob3 (And.intro hro3 hro4)))); clear h1 h2 hrb3 hob3 hro3 hro4) | (refine step_append rfl (.tmp 65) (.tmp 74) 47 rfl (appS (wr := w3) (B := w.heap.size) 47 47 208 Try.underlying47 infoNam rfl (by decide) H3W.out.2.2.2.2 (by have hq : W.heap.size ≤ w3.heap.size := hs3; omega) (grown_of_below (by go_grown)) (by omega) (by omega) [.slice none 0 0, .string (c.E m).text, .slice none 0 0, .iface T (.pointer (some ⟨x, 0, none⟩)), .slice none 0 0] rfl (by intro u hu; simp at hu; rcases hu with rfl | rfl | rfl | rfl | rfl <;> rfl) _ _ (cells_new (by simp))) ?_; rintro v1 w5 ⟨hown2, hg2, hbb2⟩; have hB2 := keep_block H3W.out.2.2.1 (by go_grown) H3W.out.2.2.2.2 hg2 (by decide); have hR2 := keep_block H3W.out.2.1 (by go_grown) H3W.out.2.2.2.2 hg2 (by decide); have hO2 := World.ownsRow.kept (own_below H3W.out.2.2.2.1 (by go_grown)) hg2 (own_ne H3W.out.2.2.2.1 H3W.out.2.2.2.2 (by decide)); have e4 := cell_of_block (i := 1) hB2 rfl; have f4 := free_of_block (i := 1) hB2; obtain ⟨ao3, cp3, rfl⟩ := owns_slice hown2; have HO2 := Lib.hid (And.intro hown2 (And.intro hg2 (And.intro hB2 (And.intro hR2 hO2)))); clear hown2 hg2 hbb2 hB2 hR2 hO2))
          all_goals
            go_wp2
            go_roundw
            case rel =>
              have hs3' : W.heap.size ≤ w3.heap.size := hs3
              refine ⟨j + 1, m + sz c.E m, P2, .slice aw1 p1 cw1, .slice ao3 (p2 + 1) cp3, p1, p2 + 1, _, _, by go_num, by omega, Ahead.succ HK.out HKk.out, ?_, block_set_other HO2.out.2.2.2.1 (by simp) _, by have := block_setCell (i := 1) (u := .slice ao3 (p2 + 1) cp3) HO2.out.2.2.1; simpa using this, ownsRow_setCell_other HO2.out.2.2.2.2 ((own_block_ne HO2.out.2.2.2.2 HO2.out.2.2.1 (by decide)).symm) _, ownsRow_setCell_other HO2.out.1 ((own_block_ne HO2.out.1 HO2.out.2.2.1 (by decide)).symm) _, by omega, by omega, Lib.hid (fun _ => ⟨by omega, fun k hk => by rw [Nat.add_sub_cancel, HKk.out] at hk; cases hk; exact HT0.out⟩)⟩
              exact ((((H3W.out.1.below (by go_grown)).append HB.out hab' (own_below H3W.out.2.2.2.2 (by go_grown)) HO2.out.2.1 (by decide)).set HB.out hab' (by omega) HO2.out.2.2.1 (by decide) _)).cong rfl H3.out
            case measure => first | (simp [intOf]; done) | (simp [intOf]; omega)
    · obtain rfl : j = l.length := by omega
      obtain rfl := HA.out.2.1 rfl
      obtain ⟨aw1, cw1, rfl⟩ := owns_slice HR1.out
      obtain ⟨aw2, cw2, rfl⟩ := owns_slice HR2.out
      have l0 : wr.cell? ⟨w.heap.size + 1, 0, none⟩ = some (.slice aw1 p1 cw1) := cell_of_block HOB.out rfl
      have l1 : wr.cell? ⟨w.heap.size + 1, 1, none⟩ = some (.slice aw2 p2 cw2) := cell_of_block HOB.out rfl
      have r0 : wr.cell? ⟨w.heap.size, 0, none⟩ = some (.slice none 0 0) := cell_of_block HRB.out rfl
      have r1 : wr.cell? ⟨w.heap.size, 1, none⟩ = some (.slice none 0 0) := cell_of_block HRB.out rfl
      have f0 : wr.frozen? ⟨w.heap.size, 0, none⟩ = false := free_of_block HRB.out
      have f1 : wr.frozen? ⟨w.heap.size, 1, none⟩ = false := free_of_block HRB.out
      go_wp2
      refine bodyPost_ret (v := .agg #[.slice aw1 p1 cw1, .slice aw2 p2 cw2]) (by simp [results, Try.results52, go_sem, r0, r1]) rfl ?_
      refine ⟨_, _, P1, rfl, ⟨_, _, _, rfl⟩, ⟨_, _, _, rfl⟩, ?_⟩
      exact St.write HT.out (World.grownBy.trans (grown_set _ ⟨w.heap.size, 0, none⟩ _) (grown_set _ ⟨w.heap.size, 1, none⟩ _)) (Nat.le_refl _) hab' HB.out HRB.out (by decide)
end Go.Proofs.Ytkpfbgeaodopoaa.fnDirect
