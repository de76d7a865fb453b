/-
  FnDirect: the builder's function.
-/
import Derived.Test.YtkpfbgeaodopoaaDirMany
namespace Go.Proofs.Ytkpfbgeaodopoaa.fnDirect
open Go.RowKit
set_option linter.unusedSimpArgs false
set_option linter.unusedVariables false

/-- A parameter's kids. -/
def Par (E : Nat → Nd) (k : Nat) : Prop := (E k).kind = 33 ∧ (kids E k = [] ∨ ∃ a, kids E k = [a] ∧ ex (E a))

theorem Shape.par {E : Nat → Nd} {k : Nat} (h : Shape E (E k) (kids E k)) (hk : (E k).kind = 33) : Par E k := by
  refine ⟨hk, ?_⟩
  cases h with
  | param0 _ h => exact .inl h
  | param1 a _ h hx => exact .inr ⟨a, h, hx⟩
  | _ => simp_all

theorem infoPar : (Try.prog.info? 213).map (fun i => (i.zero, i.size, i.bytes)) = some (some (.agg #[.slice none 0 0, .string ⟨#[]⟩, .slice none 0 0, .slice none 0 0, .nilIface, .pointer none, .string ⟨#[]⟩, .int .i64 0, .int .i64 0, .int .i64 0, .int .i64 0]), 11, 160) := by kernel_rfl

set_option maxRecDepth 100000 in
set_option maxHeartbeats 1600000 in
theorem function_any (c : Ctx) (N : Nat) (ih : NodeTo c N) (hf : Fit c.E c.n) (hn : c.n ≤ 400) (l : List Nat) (q lo hi : Nat) (lv : Value) (w : World) (P : Nat → Value) (hK : Kin (sz c.E) lo hi (l ++ [q])) (hhi : hi ≤ c.n) (hp : ∀ k ∈ l, Par c.E k) (hq : ex (c.E q)) (hs : ∀ k, lo ≤ k → k + sz c.E k ≤ hi → sz c.E k ≤ N) (hb : Bld c w P) (hl : IntsIn c w lv (l ++ [q])) :
    Calls Try.prog 53 #[.pointer (some ⟨c.bb, 0, none⟩), lv] w fun e w' => ∃ x P' T y, e = .returned (.pointer (some ⟨x, 0, none⟩)) ∧ w.heap.size ≤ x ∧ NodeAt w' x ∧ St c w P lo hi w' P' ∧ Apart c x lo hi P' ∧ w'.cell? ⟨x, 2, none⟩ = some (.iface T (.pointer (some ⟨y, 0, none⟩))) := by
  obtain ⟨ao, cap, rfl⟩ := hl.form
  have hlen := hK.len
  rw [List.length_append, List.length_singleton] at hlen ⊢
  obtain ⟨mid, hK1, hK2⟩ := hK.split
  obtain ⟨rfl, k2, k3, h4⟩ := hK2.cons_inv
  have hend := h4.nil_inv
  have hcap := hl.cap.1
  rw [List.length_append, List.length_singleton] at hcap
  have HB := Lib.hid hb
  have HL := Lib.hid hl
  have HK := Lib.hid hK1
  have HP := Lib.hid hp
  have HQ := Lib.hid hq
  have HS := Lib.hid hs
  have IH := Lib.hid ih
  have HF := Lib.hid hf
  have hpb := hb.ltp
  have hbb := hb.ltb
  have hab := hb.lta (i := q) (by omega)
  have hmq := hK1.le
  clear hb hl hK hK1 hK2 hp hq hs ih hf h4
  go_enter Try.func53, Try.ntmps53
  go_wp2_with fail
  go_loopw [19] (fun i wr => ∃ (j m : Nat) (P1 : Nat → Value) (C : Array Value) (v : Value) (xs : List Value), i = .int .i64 j ∧ j ≤ l.length ∧ Ahead l lo q j m ∧ St c w P lo m wr P1 ∧ Apart c w.heap.size lo m P1 ∧ wr.heap[w.heap.size]? = some (.cells C 211 (0, 0)) ∧ C[2]? = some .nilIface ∧ C[3]? = some v ∧ wr.ownsRow w.heap.size 213 11 v j xs) (fun i _ => l.length - (intOf i).toNat)
  case atStart => exact ⟨0, lo, P, _, _, [], rfl, Nat.zero_le _, Ahead.zero HK.out, (St.refl HB.out lo).below (by go_grown), Apart.nil _ _ _ _, block_new _ _, rfl, rfl, World.ownsRow_nil _ _ _ _⟩
  case round =>
    obtain ⟨j, m, P1, C, v, xs, rfl, hj, hA, hSt, hAp, hC, hC2, hC3, hrow⟩ := hrel
    have HA := Lib.hid hA
    have HT := Lib.hid hSt
    have HAp := Lib.hid hAp
    have HR := Lib.hid hrow
    have HC := Lib.hid (And.intro hC (And.intro hC2 hC3))
    have HBr := Lib.hid hSt.bld
    have hsr := hSt.grown.size
    have hxr := lt_of_block hC
    clear hA hSt hrow hAp hC hC2 hC3
    by_cases hlt : j < l.length
    · obtain ⟨k, hk⟩ : ∃ k, l[j]? = some k := ⟨_, List.getElem?_eq_getElem hlt⟩
      obtain rfl := HA.out.1 k hk
      have hkm := List.mem_of_getElem? hk
      obtain ⟨k1, k2', k3'⟩ := HK.out.get hk
      have hkn : m < c.n := by omega
      have HLr := Lib.hid (HL.out.left.st HT.out)
      obtain ⟨g, o, rfl, hg, hc⟩ := HLr.out.get hk
      have HKk := Lib.hid hk
      have HPm := Lib.hid (HP.out m hkm)
      have hfm := HF.out.2.2 m hkn
      clear hk
      have c0 := HBr.out.c0
      obtain ⟨q0, q1, q2, q3, q4⟩ := HBr.out.t m hkn
      go_wp2_with fail
      go_region_held3 (fun w' => w'.cell? ⟨c.bb, 0, none⟩ = some (.slice (some c.a) c.n c.cap) ∧ w'.cell? (c.a.add (m * 5)) = some (.int .i64 (c.E m).kind) ∧ w'.cell? ⟨(c.a.add (m * 5)).block, (c.a.add (m * 5)).off + 1, none⟩ = some (.int .i64 (c.E m).op) ∧ w'.cell? ⟨(c.a.add (m * 5)).block, (c.a.add (m * 5)).off + 2, none⟩ = some (.string (c.E m).text) ∧ w'.cell? ⟨(c.a.add (m * 5)).block, (c.a.add (m * 5)).off + 3, none⟩ = some (.int .i64 (c.E m).flag) ∧ w'.cell? ⟨(c.a.add (m * 5)).block, (c.a.add (m * 5)).off + 4, none⟩ = some (.int .i64 (c.E m).size)) (first | with_reducible exact ⟨c0, q0, q1, q2, q3, q4⟩ | with_reducible exact ⟨cell_past _ c0, cell_past _ q0, cell_past _ q1, cell_past _ q2, cell_past _ q3, cell_past _ q4⟩ | with_reducible exact ⟨past5 (cell_later hb1 c0) n2, past5 (cell_later hb1 q0) n3, past5 (cell_later hb1 q1) n3, past5 (cell_later hb1 q2) n3, past5 (cell_later hb1 q3) n3, past5 (cell_later hb1 q4) n3⟩ | with_reducible exact ⟨cell_later hb1 c0, cell_later hb1 q0, cell_later hb1 q1, cell_later hb1 q2, cell_later hb1 q3, cell_later hb1 q4⟩ | with_reducible exact ⟨cell_past _ (cell_later hb1 c0), cell_past _ (cell_later hb1 q0), cell_past _ (cell_later hb1 q1), cell_past _ (cell_later hb1 q2), cell_past _ (cell_later hb1 q3), cell_past _ (cell_later hb1 q4)⟩ | with_reducible exact ⟨cell_drew c0, cell_drew q0, cell_drew q1, cell_drew q2, cell_drew q3, cell_drew q4⟩ | with_reducible exact ⟨cell_drew (cell_past _ c0), cell_drew (cell_past _ q0), cell_drew (cell_past _ q1), cell_drew (cell_past _ q2), cell_drew (cell_past _ q3), cell_drew (cell_past _ q4)⟩) (first | (go_at_call 43; refine (kids_any c m _ P1 HF.out hn hkn (HBr.out.below (by go_grown))).mono ?_; rintro e w1 ⟨v, rfl, h1, h2⟩; have hb1 : Below wr.heap.size wr w1 := below_step (Nat.le_refl _) (by go_grown) h2; have n0 := World.new_ne w1 _ (cell_later hb1 c0); have n1 := World.new_ne w1 _ (cell_later hb1 q0); obtain ⟨ao, cap, rfl⟩ := (h1 _ (fun _ _ _ => rfl)).form; have HI := Lib.hid (show Far c _ w1 _ (kids c.E m) from h1); clear h1; (try (have hz := kept_new h2 (n := wr.heap.size) rfl; obtain ⟨z0, z1, z2, z3, z4, y0, y1, y2, y3, y4⟩ := cells5 hz; have n2 := World.new_ne wr _ c0; have n3 := World.new_ne wr _ q0))))
      all_goals
        obtain ⟨W, nb, hW, hnb, HV⟩ : ∃ W nb, W = _ ∧ nb = _ ∧ Hid (Var c (.slice ao (kids c.E m).length cap) (kids c.E m) wr W nb (c.E m)) := by first | exact ⟨_, _, rfl, rfl, Lib.hid (var3 (x := c.E m) hb1 HI.out hz (by simp))⟩ | exact ⟨_, _, rfl, rfl, Lib.hid (var2 (x := c.E m) hb1 HI.out)⟩
        rw [← hW]
        rw [← hnb]
        clear hW hnb
        clear c0 q0 q1 q2 q3 q4
        obtain ⟨z0, z1, z2, z3, z4, y0, y1, y2, y3, y4⟩ := cells5 HV.out.2.2.2
        have HTW := Lib.hid (HT.out.below HV.out.2.1)
        obtain ⟨hk33, hkids⟩ := HPm.out
        rw [hk33] at z0
        have e3 : W.cell? ⟨w.heap.size, 3, none⟩ = some v := cell_later HV.out.2.1 (cell_of_block HC.out.1 HC.out.2.2)
        have e3' := fun o => cell_past o e3
        have e3'' := fun o o' => cell_past o' (cell_past o e3)
        have HCW := Lib.hid ((HV.out.2.1.block _ hxr).trans HC.out.1)
        have HRW := Lib.hid (own_below HR.out HV.out.2.1)
        obtain ⟨ao2, cp2, rfl⟩ := owns_slice HR.out
        rcases hkids with h0 | ⟨a, h0, hxa⟩
        · have hl0 : (kids c.E m).length = 0 := by rw [h0]; rfl
          go_wp2_with (first | (go_at_call 50; refine (count_any c _ _ _ _ _ _ (by omega) (by omega)).mono ?_; rintro e w2 ⟨rfl, rfl⟩))
          go_region_law (first | (refine step_append rfl (.tmp 62) (.tmp 64) 209 rfl (appS (wr := W) (B := w.heap.size) 209 209 213 Try.underlying209 infoPar rfl (by decide) HRW.out (by have := HTW.out.grown.size; omega) (grown_of_below (by go_grown)) (by omega) (by omega) [.slice none 0 0, .string (c.E m).text, .slice none 0 0, .slice none 0 0, .nilIface, .pointer none, .string ⟨#[]⟩, .int .i64 0, .int .i64 0, .int .i64 0, .int .i64 0] rfl (by intro u hu; simp at hu; rcases hu with rfl | rfl | rfl | rfl | rfl | rfl | rfl | rfl | rfl | rfl | rfl <;> rfl) _ _ (cells_new (by simp))) ?_; rintro v1 w2 ⟨hown2, hg2, hbb2⟩; have HO2 := Lib.hid hown2; have HG2 := Lib.hid hg2; have hB2 := keep_block HCW.out (by go_grown) HRW.out hg2 (by decide); have e4 := cell_of_block hB2 HC.out.2.2; have f4 := free_of_block (i := 3) hB2; obtain ⟨ao3, cp3, rfl⟩ := owns_slice hown2; have HB2 := Lib.hid hB2; clear hown2 hg2 hbb2 hB2))
          all_goals
            go_wp2
            go_roundw
            case rel =>
              have hnx : ¬ ex (c.E m) := by unfold ex; omega
              have hend2 := hfm.kin
              rw [h0] at hend2
              have hend3 := hend2.nil_inv
              refine ⟨j + 1, m + sz c.E m, P1, C.setIfInBounds 3 (.slice ao3 (j + 1) cp3), _, _, by go_num, by omega, Ahead.succ HK.out HKk.out, ?_, ?_, block_setCell HB2.out, ?_, ?_, ownsRow_setCell_other HO2.out ((own_block_ne HO2.out HB2.out (by decide)).symm) _⟩
              · rw [← hend3]
                exact (((HTW.out.one hnx (by omega)).below (by go_grown)).append HB.out hab (own_below HRW.out (by go_grown)) HG2.out (by decide)).set HB.out hab (Nat.le_refl _) HB2.out (by decide) _
              · rw [← hend3]
                exact HAp.out.one hnx
              · rw [Array.getElem?_setIfInBounds_ne (by omega)]; exact HC.out.2.1
              · exact Array.getElem?_setIfInBounds_self_of_lt (Array.getElem?_eq_some_iff.1 HC.out.2.2).1
            case measure => first | (simp [intOf]; done) | (simp [intOf]; omega)
        · have hl1 : (kids c.E m).length = 1 := by rw [h0]; rfl
          have hnx : ¬ ex (c.E m) := by unfold ex; omega
          have hend2 := hfm.kin
          rw [h0] at hend2
          obtain ⟨ha1, ha2, ha3, ha4⟩ := hend2.cons_inv
          have ha5 := ha4.nil_inv
          clear hend2 ha4
          rw [← ha1] at ha2 ha3 ha5
          obtain ⟨g2, o2, rfl, hg2', hc2⟩ := HV.out.1.get (i := 0) (k := a) (by rw [h0]; rfl)
          rw [Nat.add_zero] at hc2
          have hc2' := fun o => cell_past o hc2
          have HC1 := fun o => (St.below (w2 := W.alloc o) (show St c w P lo a W P1 by rw [ha1]; exact HTW.out.one hnx (by omega)) (by go_grown)).node IH.out HB.out (by omega) (by omega) hxa (HS.out _ (by omega) (by omega)) ha2
          have HC2 := Lib.hid HC1
          have ha1a : m < a := by omega
          have ha1b : a < m + 2 := by omega
          have HA5 := Lib.hid ha5
          clear HC1 ha1 ha5
          go_wp2_with (first | (go_at_call 50; refine (count_any c _ _ _ _ _ _ (by omega) (by omega)).mono ?_; rintro e w2 ⟨rfl, rfl⟩) | (go_at_call 31; refine (HC2.out _).mono ?_; rintro e w3 ⟨P2, T, x, rfl, -, -, -, h1, h2⟩; have hpk := h2.block (b := W.heap.size) (block_new W _) (by have := HTW.out.grown.size; omega); have hp4 := cell_of_block (i := 4) hpk rfl; have fp4 := free_of_block (i := 4) hpk; have H1 := Lib.hid (And.intro h1 h2); have HPK := Lib.hid hpk; clear h1 h2 hpk))
          obtain ⟨W4, hW4⟩ : ∃ W4, w3.setCell ⟨W.heap.size, 4, none⟩ (.iface T (.pointer (some ⟨x, 0, none⟩))) = W4 := ⟨_, rfl⟩
          rw [hW4]
          have hsW := HV.out.2.1.size
          have hne4 : w.heap.size ≠ W.heap.size := by omega
          have hpk4 : W4.heap[W.heap.size]? = some (.cells #[.slice none 0 0, .string (c.E m).text, .slice none 0 0, .slice none 0 0, .iface T (.pointer (some ⟨x, 0, none⟩)), .pointer none, .string ⟨#[]⟩, .int .i64 0, .int .i64 0, .int .i64 0, .int .i64 0] 213 (0, 0)) := by
            rw [← hW4]
            have := block_setCell (i := 4) (u := .iface T (.pointer (some ⟨x, 0, none⟩))) HPK.out
            simpa using this
          have HTW4 : Hid (St c w P lo (a + sz c.E a) W4 P2) := Lib.hid (by rw [← hW4]; exact H1.out.1.set HB.out hab (by omega) HPK.out (by decide) _)
          have HCW4 : Hid (W4.heap[w.heap.size]? = some (.cells C 211 (0, 0))) := Lib.hid (by rw [← hW4]; exact block_set_other (H1.out.2.block (block_alloc HCW.out _) (by omega)) hne4 _)
          have HRW4 : Hid (W4.ownsRow w.heap.size 213 11 (.slice ao2 j cp2) j xs) := Lib.hid (by
            rw [← hW4]
            refine ownsRow_setCell_other (H1.out.2.row (own_below HRW.out (by go_grown)) hpb) (fun h => ?_) _
            exact Nat.lt_irrefl _ (HRW.out.lt W.heap.size h).2)
          have HAp4 : Hid (Apart c w.heap.size lo (a + sz c.E a) P2) := Lib.hid (((show Apart c w.heap.size lo a P1 from (by have h := HAp.out.one hnx; rwa [show m + 1 = a by omega] at h))).step H1.out.2 (by simp; omega))
          clear e3 e3' e3'' hW4 hp4 fp4 HPK HC2
          have e3 : W4.cell? ⟨w.heap.size, 3, none⟩ = some (.slice ao2 j cp2) := cell_of_block HCW4.out HC.out.2.2
          have e3' := fun o => cell_past o e3
          have e3'' := fun o o' => cell_past o' (cell_past o e3)
          obtain ⟨p0, p1, p2, p3, p4, p5, p6, p7, p8, p9, p10⟩ := cells11 hpk4
          have HPK4 := Lib.hid hpk4
          clear hpk4
          go_region_law (first | (refine step_append rfl (.tmp 62) (.tmp 64) 209 rfl (appS (wr := W4) (B := w.heap.size) 209 209 213 Try.underlying209 infoPar rfl (by decide) HRW4.out (by have := HTW4.out.grown.size; omega) (grown_of_below (by go_grown)) (by omega) (by omega) [.slice none 0 0, .string (c.E m).text, .slice none 0 0, .slice none 0 0, .iface T (.pointer (some ⟨x, 0, none⟩)), .pointer none, .string ⟨#[]⟩, .int .i64 0, .int .i64 0, .int .i64 0, .int .i64 0] rfl (by intro u hu; simp at hu; rcases hu with rfl | rfl | rfl | rfl | rfl | rfl | rfl | rfl | rfl | rfl | rfl <;> rfl) _ _ (cells_new (by simp))) ?_; rintro v1 w2 ⟨hown2, hg2, hbb2⟩; have HO2 := Lib.hid hown2; have HG2 := Lib.hid hg2; have hB2 := keep_block HCW4.out (by go_grown) HRW4.out hg2 (by decide); have e4 := cell_of_block hB2 HC.out.2.2; have f4 := free_of_block (i := 3) hB2; obtain ⟨ao3, cp3, rfl⟩ := owns_slice hown2; have HB2 := Lib.hid hB2; clear hown2 hg2 hbb2 hB2))
          all_goals
            go_wp2
            go_roundw
            case rel =>
              refine ⟨j + 1, m + sz c.E m, P2, C.setIfInBounds 3 (.slice ao3 (j + 1) cp3), _, _, by go_num, by omega, Ahead.succ HK.out HKk.out, ?_, ?_, block_setCell HB2.out, ?_, ?_, ownsRow_setCell_other HO2.out ((own_block_ne HO2.out HB2.out (by decide)).symm) _⟩
              · rw [← HA5.out]
                exact ((HTW4.out.below (by go_grown)).append HB.out hab (own_below HRW4.out (by go_grown)) HG2.out (by decide)).set HB.out hab (Nat.le_refl _) HB2.out (by decide) _
              · rw [← HA5.out]
                exact HAp4.out
              · rw [Array.getElem?_setIfInBounds_ne (by omega)]; exact HC.out.2.1
              · exact Array.getElem?_setIfInBounds_self_of_lt (Array.getElem?_eq_some_iff.1 HC.out.2.2).1
            case measure => first | (simp [intOf]; done) | (simp [intOf]; omega)
    · obtain rfl : j = l.length := by omega
      obtain rfl := HA.out.2.1 rfl
      obtain ⟨ao2, cp2, rfl⟩ := owns_slice HR.out
      have HLr := Lib.hid (HL.out.st HT.out)
      obtain ⟨g, o, rfl, hg, hc⟩ := HLr.out.get (i := l.length) (k := m) (by simp)
      have HC1 := Lib.hid (HT.out.node IH.out HB.out hmq (by omega) HQ.out (HS.out _ hmq k3) k2)
      go_wp2_with (first | (go_at_call 31; refine HC1.out.mono ?_; rintro e w3 ⟨P2, T, x, rfl, -, -, -, h1, h2⟩; have hbk := h2.block HC.out.1 (by omega); have hp4 := cell_of_block (i := 2) hbk HC.out.2.1; have fp4 := free_of_block (i := 2) hbk; have H1 := Lib.hid (And.intro h1 h2); have HPK := Lib.hid hbk; clear h1 h2 hbk))
      go_ret
      have hs3 := H1.out.2.grown.size
      refine ⟨_, P2, T, x, rfl, Nat.le_refl _, ⟨_, _, block_setCell HPK.out, rfl⟩, ?_, ?_, cell_of_block (block_setCell HPK.out) (Array.getElem?_setIfInBounds_self_of_lt (Array.getElem?_eq_some_iff.1 HC.out.2.1).1)⟩
      · rw [← hend]
        exact H1.out.1.set HB.out hab (Nat.le_refl _) HPK.out (by decide) _
      · rw [← hend]
        exact HAp.out.step H1.out.2 hxr
end Go.Proofs.Ytkpfbgeaodopoaa.fnDirect
