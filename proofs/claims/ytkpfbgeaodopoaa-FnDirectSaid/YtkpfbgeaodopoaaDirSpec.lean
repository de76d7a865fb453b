/-
  FnDirect: the builder's specifications.
-/
import Derived.Test.YtkpfbgeaodopoaaDirField
namespace Go.Proofs.Ytkpfbgeaodopoaa.fnDirect
open Go.RowKit
set_option linter.unusedSimpArgs false
set_option linter.unusedVariables false

theorem cells7 {w : World} {n : Nat} {a' b' c' d' e' f' g' : Value} {t : TypeId} (hh : w.heap[n]? = some (.cells #[a', b', c', d', e', f', g'] t (0, 0))) :
    w.cell? ⟨n, 0, none⟩ = some a' ∧ w.cell? ⟨n, 1, none⟩ = some b' ∧ w.cell? ⟨n, 2, none⟩ = some c' ∧ w.cell? ⟨n, 3, none⟩ = some d' ∧ w.cell? ⟨n, 4, none⟩ = some e' ∧ w.cell? ⟨n, 5, none⟩ = some f' ∧ w.cell? ⟨n, 6, none⟩ = some g' :=
  ⟨cell_of_block hh (i := 0) rfl, cell_of_block hh (i := 1) rfl, cell_of_block hh (i := 2) rfl, cell_of_block hh (i := 3) rfl, cell_of_block hh (i := 4) rfl, cell_of_block hh (i := 5) rfl, cell_of_block hh (i := 6) rfl⟩

theorem free7 {w : World} {n : Nat} {C : Array Value} {t : TypeId} (hh : w.heap[n]? = some (.cells C t (0, 0))) :
    w.frozen? ⟨n, 0, none⟩ = false ∧ w.frozen? ⟨n, 1, none⟩ = false ∧ w.frozen? ⟨n, 2, none⟩ = false ∧ w.frozen? ⟨n, 3, none⟩ = false ∧ w.frozen? ⟨n, 4, none⟩ = false ∧ w.frozen? ⟨n, 5, none⟩ = false ∧ w.frozen? ⟨n, 6, none⟩ = false :=
  ⟨free_of_block (i := 0) hh, free_of_block (i := 1) hh, free_of_block (i := 2) hh, free_of_block (i := 3) hh, free_of_block (i := 4) hh, free_of_block (i := 5) hh, free_of_block (i := 6) hh⟩

theorem grown7 (w : World) (n : Nat) (a' b' c' d' e' f' g' : Value) : w.grownBy (((((((w.setCell ⟨n, 0, none⟩ a').setCell ⟨n, 1, none⟩ b').setCell ⟨n, 2, none⟩ c').setCell ⟨n, 3, none⟩ d').setCell ⟨n, 4, none⟩ e').setCell ⟨n, 5, none⟩ f').setCell ⟨n, 6, none⟩ g') (some n) :=
  (World.grownBy.trans (World.grownBy.trans (World.grownBy.trans (World.grownBy.trans (World.grownBy.trans (World.grownBy.trans (grown_set _ _ _) (grown_set _ _ _)) (grown_set _ _ _)) (grown_set _ _ _)) (grown_set _ _ _)) (grown_set _ _ _)) (grown_set _ _ _))

/-- A specification's kid. -/
def Spc (E : Nat → Nd) (k : Nat) : Prop := ∃ a, kids E k = [a] ∧ ex (E a)

theorem Shape.spc {E : Nat → Nd} {k : Nat} (h : Shape E (E k) (kids E k)) (hk : (E k).kind = 38 ∨ (E k).kind = 39) : Spc E k := by
  rcases hk with hk | hk
  all_goals
    cases h with
    | one a _ _ h hx => exact ⟨a, h, hx⟩
    | _ => simp_all

theorem infoIfs : (Try.prog.info? 115).map (fun i => (i.zero, i.size, i.bytes)) = some (some (.agg #[.nilIface, .slice none 0 0]), 2, 40) := by kernel_rfl

/-- The specification at hand. -/
def OutAt (w : World) (B : Nat) (u : Value) (j : Nat) : Prop :=
  ∃ ob v ou T y nm n xs, u = .pointer (some ⟨ob, 0, none⟩) ∧ B < ob ∧ w.heap[ob]? = some (.cells #[.slice none 0 0, .slice none 0 0, v, .pointer ou, .iface T (.pointer (some ⟨y, 0, none⟩)), .string nm, .slice none 0 0] 111 (0, 0)) ∧ w.ownsRow B 115 2 v n xs ∧ n ≤ j

set_option maxRecDepth 100000 in
set_option maxHeartbeats 3200000 in
theorem specs_any (c : Ctx) (N : Nat) (ih : NodeTo c N) (hf : Fit c.E c.n) (hn : c.n ≤ 400) (l : List Nat) (lo hi : Nat) (lv : Value) (w : World) (P : Nat → Value) (hK : Kin (sz c.E) lo hi l) (hhi : hi ≤ c.n) (hsp : Specs c.E l) (hkd : ∀ k ∈ l, Spc c.E k) (hs : ∀ k, lo ≤ k → k + sz c.E k ≤ hi → sz c.E k ≤ N) (hb : Bld c w P) (hl : IntsIn c w lv l) :
    Calls Try.prog 62 #[.pointer (some ⟨c.bb, 0, none⟩), lv] w fun e w' => ∃ v ou T y nm P', e = .returned (.agg #[.slice none 0 0, .slice none 0 0, v, .pointer ou, .iface T (.pointer (some ⟨y, 0, none⟩)), .string nm, .slice none 0 0]) ∧ (∃ ao n cap, v = .slice ao n cap) ∧ St c w P lo hi w' P' := by
  obtain ⟨ao, cap, rfl⟩ := hl.form
  have hlen := hK.len
  have HB := Lib.hid hb
  have HL := Lib.hid hl
  have HK := Lib.hid hK
  have HP := Lib.hid hkd
  have HSP := Lib.hid hsp
  have HS := Lib.hid hs
  have IH := Lib.hid ih
  have HF := Lib.hid hf
  have hpb := hb.ltp
  have hbb := hb.ltb
  obtain ⟨hl0, hab⟩ : 1 ≤ l.length ∧ c.a.block < w.heap.size := by
    obtain ⟨k, l', rfl, -⟩ := hsp
    have := hK.mem (List.mem_cons_self)
    exact ⟨by simp, hb.lta (i := k) (by omega)⟩
  clear hb hl hK hkd hs ih hf hsp
  go_enter Try.func62, Try.ntmps62
  go_wp2_with fail
  go_loopw [5, 12] (fun u i wr => ∃ (j m : Nat) (P1 : Nat → Value), i = .int .i64 j ∧ j ≤ l.length ∧ Ahead l lo hi j m ∧ St c w P lo m wr P1 ∧ wr.heap[w.heap.size]? = some (.cells #[.slice none 0 0, .slice none 0 0, .slice none 0 0, .pointer none, .nilIface, .string ⟨#[]⟩, .slice none 0 0] 111 (0, 0)) ∧ ((j = 0 ∧ u = .pointer none) ∨ (0 < j ∧ OutAt wr w.heap.size u j))) (fun _ i _ => l.length - (intOf i).toNat)
  case atStart => exact ⟨0, lo, P, rfl, Nat.zero_le _, Ahead.zero HK.out, (St.refl HB.out lo).below (by go_grown), block_new _ _, .inl ⟨rfl, rfl⟩⟩
  case round =>
    obtain ⟨j, m, P1, rfl, hj, hA, hSt, hrb, hout⟩ := hrel
    have HA := Lib.hid hA
    have HT := Lib.hid hSt
    have HO := Lib.hid hout
    have HRB := Lib.hid hrb
    have HBr := Lib.hid hSt.bld
    have hsr := hSt.grown.size
    have hxr := lt_of_block hrb
    clear hA hSt hrb hout
    by_cases hlt : j < l.length
    · obtain ⟨k, hk⟩ : ∃ k, l[j]? = some k := ⟨_, List.getElem?_eq_getElem hlt⟩
      obtain rfl := HA.out.1 k hk
      have hkm := List.mem_of_getElem? hk
      obtain ⟨k1, k2', k3'⟩ := HK.out.get hk
      have hkn : m < c.n := by omega
      have HLr := Lib.hid (HL.out.st HT.out)
      obtain ⟨g, o, rfl, hg, hc⟩ := HLr.out.get hk
      have HKk := Lib.hid hk
      obtain ⟨a, h0, hxa⟩ := HP.out m hkm
      have hkid := HF.out.kid1 hkn h0
      have hkind : (c.E m).kind = 38 ∨ (0 < j ∧ (c.E m).kind = 39) := by
        obtain ⟨k, l', hl', hk38, hrest⟩ := HSP.out
        cases j with
        | zero => rw [hl'] at hk; simp at hk; subst hk; exact .inl hk38
        | succ j =>
          rw [hl'] at hk
          simp at hk
          rcases hrest m (List.mem_of_getElem? hk) with h | h
          · exact .inl h
          · exact .inr ⟨by omega, h⟩
      obtain ⟨a1, a2, a3, a4, a5⟩ := hkid
      have H1 := Lib.hid a1
      have H3 := Lib.hid a3
      have H0 := Lib.hid h0
      have HKI := Lib.hid hkind
      have b1 : m < a := by omega
      have hnx : ¬ ex (c.E m) := by unfold ex; omega
      clear hk a1 a3 h0 hkind
      have c0 := HBr.out.c0
      obtain ⟨q0, q1, q2, q3, q4⟩ := HBr.out.t m hkn
      go_wp2_with fail
      go_region_held3 (fun w' => w'.cell? ⟨c.bb, 0, none⟩ = some (.slice (some c.a) c.n c.cap) ∧ w'.cell? (c.a.add (m * 5)) = some (.int .i64 (c.E m).kind) ∧ w'.cell? ⟨(c.a.add (m * 5)).block, (c.a.add (m * 5)).off + 1, none⟩ = some (.int .i64 (c.E m).op) ∧ w'.cell? ⟨(c.a.add (m * 5)).block, (c.a.add (m * 5)).off + 2, none⟩ = some (.string (c.E m).text) ∧ w'.cell? ⟨(c.a.add (m * 5)).block, (c.a.add (m * 5)).off + 3, none⟩ = some (.int .i64 (c.E m).flag) ∧ w'.cell? ⟨(c.a.add (m * 5)).block, (c.a.add (m * 5)).off + 4, none⟩ = some (.int .i64 (c.E m).size)) (first | with_reducible exact ⟨c0, q0, q1, q2, q3, q4⟩ | with_reducible exact ⟨cell_past _ c0, cell_past _ q0, cell_past _ q1, cell_past _ q2, cell_past _ q3, cell_past _ q4⟩ | with_reducible exact ⟨past5 (cell_later hb1 c0) n2, past5 (cell_later hb1 q0) n3, past5 (cell_later hb1 q1) n3, past5 (cell_later hb1 q2) n3, past5 (cell_later hb1 q3) n3, past5 (cell_later hb1 q4) n3⟩ | with_reducible exact ⟨cell_later hb1 c0, cell_later hb1 q0, cell_later hb1 q1, cell_later hb1 q2, cell_later hb1 q3, cell_later hb1 q4⟩ | with_reducible exact ⟨cell_past _ (cell_later hb1 c0), cell_past _ (cell_later hb1 q0), cell_past _ (cell_later hb1 q1), cell_past _ (cell_later hb1 q2), cell_past _ (cell_later hb1 q3), cell_past _ (cell_later hb1 q4)⟩ | with_reducible exact ⟨cell_drew c0, cell_drew q0, cell_drew q1, cell_drew q2, cell_drew q3, cell_drew q4⟩ | with_reducible exact ⟨cell_drew (cell_past _ c0), cell_drew (cell_past _ q0), cell_drew (cell_past _ q1), cell_drew (cell_past _ q2), cell_drew (cell_past _ q3), cell_drew (cell_past _ q4)⟩) (first | (go_at_call 43; refine (kids_any c m _ P1 HF.out hn hkn (HBr.out.below (by go_grown))).mono ?_; rintro e w1 ⟨v, rfl, h1, h2⟩; have hb1 : Below wr.heap.size wr w1 := below_step (Nat.le_refl _) (by go_grown) h2; have n0 := World.new_ne w1 _ (cell_later hb1 c0); have n1 := World.new_ne w1 _ (cell_later hb1 q0); obtain ⟨ao, cap, rfl⟩ := (h1 _ (fun _ _ _ => rfl)).form; have HI := Lib.hid (show Far c _ w1 _ (kids c.E m) from h1); clear h1; (try (have hz := kept_new h2 (n := wr.heap.size) rfl; obtain ⟨z0, z1, z2, z3, z4, y0, y1, y2, y3, y4⟩ := cells5 hz; have n2 := World.new_ne wr _ c0; have n3 := World.new_ne wr _ q0))))
      all_goals
        obtain ⟨W, nb, hW, hnb, HV⟩ : ∃ W nb, W = _ ∧ nb = _ ∧ Hid (Var c (.slice ao (kids c.E m).length cap) (kids c.E m) wr W nb (c.E m)) := by first | exact ⟨_, _, rfl, rfl, Lib.hid (var3 (x := c.E m) hb1 HI.out hz (by simp))⟩ | exact ⟨_, _, rfl, rfl, Lib.hid (var2 (x := c.E m) hb1 HI.out)⟩
        rw [← hW]
        rw [← hnb]
        clear hW hnb
        clear c0 q0 q1 q2 q3 q4
        obtain ⟨z0, z1, z2, z3, z4, y0, y1, y2, y3, y4⟩ := cells5 HV.out.2.2.2
        have hsW := HV.out.2.1.size
        have HTW := Lib.hid ((HT.out.below HV.out.2.1).one hnx k1)
        have HRW := Lib.hid ((HV.out.2.1.block _ hxr).trans HRB.out)
        have hl1 : (kids c.E m).length = 1 := by rw [H0.out]; rfl
        obtain ⟨g2, o2, rfl, hg2', hc2⟩ := HV.out.1.get (i := 0) (k := a) (by rw [H0.out]; rfl)
        rw [Nat.add_zero] at hc2
        have hG2 : some g2 ≠ some c.pb := by simpa using hg2'
        have hnb : some nb ≠ some c.pb := by have := HV.out.2.2.1; simp; omega
        have HC := Lib.hid (fun (w1 : World) (h1 : Below W.heap.size W w1) => (show St c w P lo a w1 P1 from (HTW.out.below h1).cong rfl H1.out.symm).node IH.out HB.out (by omega) (by omega) hxa (HS.out _ (by omega) (by have := H3.out; omega)) a2)
        rcases HKI.out with hk38 | ⟨hj0, hk39⟩
        · rw [hk38] at z0
          obtain ⟨ou5, rfl⟩ : ∃ ou, u5 = .pointer ou := by
            rcases HO.out with h | ⟨-, ob, _, _, _, _, _, _, _, h, -⟩
            · exact ⟨_, h.2⟩
            · exact ⟨_, h⟩
          have hd : Below W.heap.size W W.drew := (Below.refl _ _).drew
          go_wp2_with fail
          go_region_held3 (fun w' => w'.cell? ⟨nb, 2, none⟩ = some (.string (c.E m).text) ∧ w'.cell? ⟨g2, o2, none⟩ = some (.int .i64 (a : Int))) (first | with_reducible exact ⟨s0, s1⟩ | with_reducible exact ⟨cell_past _ s0, cell_past _ s1⟩ | with_reducible exact ⟨cell_drew z2, cell_drew hc2⟩) (first | (go_at_call 31; refine (HC.out _ hd).mono ?_; rintro e w3 ⟨P2, T, x, rfl, -, -, -, h1, h2⟩; have s0 := h2.grown.cell (cell_drew z2) hnb; have s1 := h2.grown.cell (cell_drew hc2) hG2; have hrb3 := h2.block (b := w.heap.size) (show W.drew.heap[w.heap.size]? = _ from HRW.out) (by omega); have hs3 := h2.grown.size; have H3W := Lib.hid (And.intro h1 hrb3); clear h1 h2 hrb3))
          go_wp2
          go_roundw
          case rel =>
            have hs3' : W.heap.size ≤ w3.heap.size := hs3
            exact ⟨j + 1, m + sz c.E m, P2, by go_num, by omega, Ahead.succ HK.out HKk.out, (H3W.out.1.below (by go_grown)).cong rfl H3.out, block_alloc H3W.out.2 _, .inr ⟨by omega, _, _, _, _, _, _, _, _, rfl, by omega, block_new _ _, World.ownsRow_nil _ _ _ _, by omega⟩⟩
          case measure => first | (simp [intOf]; done) | (simp [intOf]; omega)
        · rw [hk39] at z0
          obtain ⟨ob, v0, ou, T0, y0', nm, n0', xs, rfl, hob1, hob2, hob3, hob4⟩ : OutAt wr w.heap.size u5 j := by
            rcases HO.out with h | h
            · omega
            · exact h.2
          have HOB := Lib.hid ((HV.out.2.1.block _ (lt_of_block hob2)).trans hob2)
          have HRO := Lib.hid (own_below hob3 HV.out.2.1)
          obtain ⟨ao2, cp2, rfl⟩ := owns_slice hob3
          have e3 : W.cell? ⟨ob, 2, none⟩ = some (.slice ao2 n0' cp2) := cell_of_block HOB.out rfl
          clear hob2 hob3
          have hbW := HV.out.2.1
          go_wp2_with fail
          go_region_law (first | (go_simp; go_at_call 31; refine (HC.out _ (by first | exact (Below.refl _ _).drew | go_grown)).mono ?_; rintro e w3 ⟨P2, T, x, rfl, -, -, -, h1, h2⟩; have hrb3 := h2.block (b := w.heap.size) (show (World.heap _)[w.heap.size]? = some (.cells #[.slice none 0 0, .slice none 0 0, .slice none 0 0, .pointer none, .nilIface, .string ⟨#[]⟩, .slice none 0 0] 111 (0, 0)) from HRW.out) (by omega); have hob3 := h2.block (b := ob) (show (World.heap _)[ob]? = some (.cells #[.slice none 0 0, .slice none 0 0, .slice ao2 n0' cp2, .pointer ou, .iface T0 (.pointer (some ⟨y0', 0, none⟩)), .string nm, .slice none 0 0] 111 (0, 0)) from HOB.out) (by omega); have hro3 := h2.row (show World.ownsRow _ w.heap.size 115 2 (.slice ao2 n0' cp2) n0' xs from HRO.out) hpb; have e3w := cell_of_block (i := 2) hob3 rfl; have e3w' := (fun o => cell_past o e3w); have hs3 := h2.grown.size; have H3W := Lib.hid (And.intro h1 (And.intro hrb3 (And.intro hob3 hro3))); clear h1 h2 hrb3 hob3 hro3) | (refine step_append rfl (.tmp 62) (.tmp 69) 108 rfl (appS (wr := w3) (B := w.heap.size) 108 108 115 Try.underlying108 infoIfs rfl (by decide) H3W.out.2.2.2 (by have hq : W.heap.size ≤ w3.heap.size := hs3; omega) (grown_of_below (by go_grown)) (by omega) (by omega) [.iface T (.pointer (some ⟨x, 0, none⟩)), .slice none 0 0] rfl (by intro u hu; simp at hu; rcases hu with rfl | rfl <;> rfl) _ _ (cells_new (by simp))) ?_; rintro v1 w5 ⟨hown2, hg2, hbb2⟩; have hB2 := keep_block H3W.out.2.2.1 (by go_grown) H3W.out.2.2.2 hg2 (by decide); have hR2 := keep_block H3W.out.2.1 (by go_grown) H3W.out.2.2.2 hg2 (by decide); have e4 := cell_of_block (i := 2) hB2 rfl; have f4 := free_of_block (i := 2) hB2; obtain ⟨ao3, cp3, rfl⟩ := owns_slice hown2; have HO2 := Lib.hid (And.intro hown2 (And.intro hg2 (And.intro hB2 hR2))); clear hown2 hg2 hbb2 hB2 hR2))
          all_goals
            go_wp2
            go_roundw
            case rel =>
              have hs3' : W.heap.size ≤ w3.heap.size := hs3
              have hn400 : n0' + 1 ≤ j + 1 := by omega
              refine ⟨j + 1, m + sz c.E m, P2, by go_num, by omega, Ahead.succ HK.out HKk.out, ?_, block_set_other HO2.out.2.2.2 (by simp; omega) _, .inr ⟨by omega, ob, _, _, _, _, _, _, _, rfl, hob1, by have := block_setCell (i := 2) (u := .slice ao3 (n0' + 1) cp3) HO2.out.2.2.1; simpa using this, ownsRow_setCell_other HO2.out.1 ((own_block_ne HO2.out.1 HO2.out.2.2.1 (by decide)).symm) _, hn400⟩⟩
              exact ((((H3W.out.1.below (by go_grown)).append HB.out hab (own_below H3W.out.2.2.2 (by go_grown)) HO2.out.2.1 (by decide)).set HB.out hab (by omega) HO2.out.2.2.1 (by decide) _)).cong rfl H3.out
            case measure => first | (simp [intOf]; done) | (simp [intOf]; omega)
    · obtain rfl : j = l.length := by omega
      obtain rfl := HA.out.2.1 rfl
      obtain ⟨ob, v0, ou, T0, y0', nm, n0', xs, rfl, hob1, hob2, hob3, hob4⟩ : OutAt wr w.heap.size u5 l.length := by
        rcases HO.out with h | h
        · omega
        · exact h.2
      obtain ⟨ao2, cp2, rfl⟩ := owns_slice hob3
      obtain ⟨l0, l1, l2, l3, l4, l5, l6⟩ := cells7 hob2
      obtain ⟨r0, r1, r2, r3, r4, r5, r6⟩ := cells7 HRB.out
      obtain ⟨f0, f1, f2, f3, f4, f5, f6⟩ := free7 HRB.out
      have hne : ¬ ob = w.heap.size := by omega
      have hne' : ¬ w.heap.size = ob := by omega
      clear hob2 hob3
      go_wp2
      refine bodyPost_ret (v := .agg #[.slice none 0 0, .slice none 0 0, .slice ao2 n0' cp2, .pointer ou, .iface T0 (.pointer (some ⟨y0', 0, none⟩)), .string nm, .slice none 0 0]) (by simp [results, Try.results62, go_sem, hne, hne', r0, r1, r2, r3, r4, r5, r6]) rfl ?_
      refine ⟨_, ou, T0, y0', nm, P1, rfl, ⟨_, _, _, rfl⟩, ?_⟩
      exact St.write HT.out (grown7 _ w.heap.size _ _ _ _ _ _ _) (Nat.le_refl _) hab HB.out HRB.out (by decide)
end Go.Proofs.Ytkpfbgeaodopoaa.fnDirect
