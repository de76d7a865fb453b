/-
  FnDirect: the builder's field, by its flag (B).
-/
import Derived.Test.YtkpfbgeaodopoaaDirField
namespace Go.Proofs.Ytkpfbgeaodopoaa.fnDirect
open Go.RowKit
set_option linter.unusedSimpArgs false
set_option linter.unusedVariables false

set_option maxRecDepth 100000 in
set_option maxHeartbeats 1600000 in
theorem field_1 (c : Ctx) (N i : Nat) (ih : NodeTo c N) (hf : Fit c.E c.n) (hn : c.n ≤ 400) (lv : Value) (w : World) (P : Nat → Value) (hi : i < c.n) (hs : sz c.E i ≤ N + 1) (hb : Bld c w P) (hI : IntsIn c w lv (kids c.E i)) (hfl : (c.E i).flag = 1) (hop : (c.E i).op ∈ [(0 : Int), 1, 2]) (a : Nat) (hl : kids c.E i = [a]) (hxa : ex (c.E a)) :
    Calls Try.prog 66 #[.pointer (some ⟨c.bb, 0, none⟩), (c.E i).v, lv] w fun e w' => ∃ arr P', e = .returned (.agg arr) ∧ arr.size = 18 ∧ (∀ u ∈ arr.toList, u.oneCell' = true) ∧ St c w P (i + 1) (i + sz c.E i) w' P' := by
  have hfi := hf.2.2 i hi
  have hkl := hfi.kin.len
  have hcn := hfi.2.1
  have hab := hb.lta hi
  have hpb := hb.ltp
  have HB := Lib.hid hb
  have t4 : bits BinOp.and IntKind.i64 1 4 = 0 := by kernel_rfl
  have t8 : bits BinOp.and IntKind.i64 1 8 = 0 := by kernel_rfl
  have t12 : bits BinOp.andNot IntKind.i64 1 12 = 1 := by kernel_rfl
  have HKin := Lib.hid hfi.kin
  obtain ⟨ao, cap, rfl⟩ := hI.form
  obtain ⟨a1, a2, a3, a4, a5⟩ := hf.kid1 hi hl
  obtain ⟨g, o, rfl, hg, hc⟩ := hI.get (i := 0) (k := a) (by rw [hl]; rfl)
  rw [Nat.add_zero] at hc
  have hlen : (kids c.E i).length = 1 := by rw [hl]; rfl
  rw [hlen]
  have HC := Lib.hid (fun (w1 : World) (h1 : Below w.heap.size w w1) => ((St.refl hb a).below h1).node ih hb (Nat.le_refl _) (by omega) hxa (by omega) a2)
  have H1 := Lib.hid a1
  have H3 := Lib.hid a3
  clear a1 a3 hl hlen hI
  have hglt := World.block_lt_of_cell? _ _ hc
  have hgob : ¬ w.heap.size + 1 + 1 = g := (by simp at hglt; omega)
  have hgob' : ¬ g = w.heap.size + 1 + 1 := fun h => hgob h.symm
  have hcp := fun o1 o2 o3 => cell_past o3 (cell_past o2 (cell_past o1 hc))
  have hcp4 := fun o1 o2 o3 o4 => cell_past o4 (cell_past o3 (cell_past o2 (cell_past o1 hc)))
  clear hb ih
  generalize hxe : c.E i = x at *
  obtain ⟨kind, op, text, flag, size⟩ := x
  simp only [Nd.v] at *
  subst hfl
  go_enter Try.func66, Try.ntmps66
  go_upto_region 19 with (first | (go_at_call 58; refine (hides_any _ _ hop).mono ?_; rintro e wc ⟨q', rfl, rfl⟩) | (go_at_call 49; refine (str_any c _ _ P (HB.out.below (by go_grown))).mono ?_; rintro e w1 ⟨y, rfl, hy1, hy2, hb1⟩; have hbw1 : Below w.heap.size w w1 := below_step (Nat.le_refl _) (by go_grown) hb1; have hob1 := (hb1.block (w.heap.size + 1 + 1) (by simp)).trans (block_new' (w := (w.alloc _).alloc _) (n := w.heap.size + 1 + 1) (by simp) _); have hrb1 := (hb1.block (w.heap.size + 1) (by simp)).trans (block_alloc (block_new' (w := w.alloc _) (n := w.heap.size + 1) (by simp) _) _); have hnb1 := (hb1.block (w.heap.size) (by simp; omega)).trans (block_alloc (block_alloc (block_new w _) _) _); have k15 := cell_of_block (i := 15) hob1 rfl; have k6 := cell_of_block (i := 6) hob1 rfl; have kf15 := free_of_block (i := 15) hob1; have kf6 := free_of_block (i := 6) hob1; have kn3 := cell_of_block (i := 3) hnb1 rfl; have hne1 : ¬ w.heap.size + 1 + 1 = w.heap.size + 1 := (by omega); have hne2 : ¬ w.heap.size + 1 = w.heap.size + 1 + 1 := (by omega); have hne3 : ¬ w.heap.size + 1 + 1 = w.heap.size := (by omega); have hne4 : ¬ w.heap.size = w.heap.size + 1 + 1 := (by omega); have hcw := cell_later hbw1 hc) | (go_at_call 31; refine (HC.out _ (by exact (hbw1.setCell (by simp; omega) _).setCell (by simp; omega) _)).mono ?_; rintro e w5 ⟨P3, T, x, rfl, -, -, -, h1, h2⟩; have hob := h2.block (b := w.heap.size + 1 + 1) (show ((w1.setCell ⟨w.heap.size + 1 + 1, 15, none⟩ (.int .i64 3)).setCell ⟨w.heap.size + 1 + 1, 6, none⟩ (.iface 96 (.pointer (some ⟨y, 0, none⟩)))).heap[w.heap.size + 1 + 1]? = some (.cells #[.pointer none, .pointer none, .slice none 0 0, .slice none 0 0, .slice none 0 0, .slice none 0 0, .iface 96 (.pointer (some ⟨y, 0, none⟩)), .nilIface, .nilIface, .pointer none, .string ⟨#[]⟩, .int .i64 0, .int .i64 0, .int .i64 0, .int .i64 0, .int .i64 3, .int .i64 q', .bool false] 146 (0, 0)) by have := block_setCell (i := 6) (u := .iface 96 (.pointer (some ⟨y, 0, none⟩))) (block_setCell (i := 15) (u := .int .i64 3) hob1); simpa using this) (by omega); have hrb := h2.block (b := w.heap.size + 1) (show ((w1.setCell ⟨w.heap.size + 1 + 1, 15, none⟩ (.int .i64 3)).setCell ⟨w.heap.size + 1 + 1, 6, none⟩ (.iface 96 (.pointer (some ⟨y, 0, none⟩)))).heap[w.heap.size + 1]? = _ from block_set_other (block_set_other hrb1 (by simp) _) (by simp) _) (by omega); have hnb := h2.block (b := w.heap.size) (show ((w1.setCell ⟨w.heap.size + 1 + 1, 15, none⟩ (.int .i64 3)).setCell ⟨w.heap.size + 1 + 1, 6, none⟩ (.iface 96 (.pointer (some ⟨y, 0, none⟩)))).heap[w.heap.size]? = _ from block_set_other (block_set_other hnb1 (by simp; omega) _) (by simp; omega) _) (by omega); obtain ⟨l0, l1, l2, l3, l4, l5, l6, l7, l8, l9, l10, l11, l12, l13, l14, l15, l16, l17⟩ := cells18 hob; have lf7 := free_of_block (i := 7) hob; have lf0 := free_of_block (i := 0) hob; obtain ⟨r0, r1, r2, r3, r4, r5, r6, r7, r8, r9, r10, r11, r12, r13, r14, r15, r16, r17⟩ := cells18 hrb; obtain ⟨f0, f1, f2, f3, f4, f5, f6, f7, f8, f9, f10, f11, f12, f13, f14, f15, f16, f17⟩ := free18 hrb; have hn3 := cell_of_block (i := 3) hnb rfl; have hne1 : ¬ w.heap.size + 1 + 1 = w.heap.size + 1 := (by omega); have hne2 : ¬ w.heap.size + 1 = w.heap.size + 1 + 1 := (by omega); have hne3 : ¬ w.heap.size + 1 + 1 = w.heap.size := (by omega); have hne4 : ¬ w.heap.size = w.heap.size + 1 + 1 := (by omega); have HT := Lib.hid (h1.cong H1.out H3.out); have HPK := Lib.hid (And.intro hob hrb); clear h1 h2 hob hrb hnb))
  obtain ⟨WF, hWF⟩ : ∃ WF, (w5.setCell ⟨w.heap.size + 1 + 1, 7, none⟩ (.iface T (.pointer (some ⟨x, 0, none⟩)))) = WF := ⟨_, rfl⟩
  rw [hWF]
  have hobF : WF.heap[w.heap.size + 1 + 1]? = some (.cells #[.pointer none, .pointer none, .slice none 0 0, .slice none 0 0, .slice none 0 0, .slice none 0 0, .iface 96 (.pointer (some ⟨y, 0, none⟩)), .iface T (.pointer (some ⟨x, 0, none⟩)), .nilIface, .pointer none, .string ⟨#[]⟩, .int .i64 0, .int .i64 0, .int .i64 0, .int .i64 0, .int .i64 3, .int .i64 q', .bool false] 146 (0, 0)) := by
    rw [← hWF]
    have := (block_setCell (i := 7) (u := .iface T (.pointer (some ⟨x, 0, none⟩))) HPK.out.1)
    simpa using this
  have hrbF : WF.heap[w.heap.size + 1]? = some (.cells #[.pointer none, .pointer none, .slice none 0 0, .slice none 0 0, .slice none 0 0, .slice none 0 0, .nilIface, .nilIface, .nilIface, .pointer none, .string ⟨#[]⟩, .int .i64 0, .int .i64 0, .int .i64 0, .int .i64 0, .int .i64 0, .int .i64 0, .bool false] 146 (0, 0)) := by
    rw [← hWF]
    exact (block_set_other HPK.out.2 (by simp) _)
  have HTF : Hid (St c w P _ (i + sz c.E i) WF P3) := Lib.hid (by rw [← hWF]; exact (St.set (i := 7) HT.out HB.out hab (by omega) HPK.out.1 (by decide) (.iface T (.pointer (some ⟨x, 0, none⟩)))))
  clear hWF
  refine wp_copyout 146 9 6 95 rfl rfl rfl rfl rfl rfl (w.heap.size + 1 + 1) (w.heap.size + 1) #[.pointer none, .pointer none, .slice none 0 0, .slice none 0 0, .slice none 0 0, .slice none 0 0, .iface 96 (.pointer (some ⟨y, 0, none⟩)), .iface T (.pointer (some ⟨x, 0, none⟩)), .nilIface, .pointer none, .string ⟨#[]⟩, .int .i64 0, .int .i64 0, .int .i64 0, .int .i64 0, .int .i64 3, .int .i64 q', .bool false] hobF hrbF Try.underlying146 rfl (by kernel_rfl) rfl (oneAll rfl) rfl rfl rfl ?_
  go_wp2
  refine bodyPost_ret (v := .agg #[.pointer none, .pointer none, .slice none 0 0, .slice none 0 0, .slice none 0 0, .slice none 0 0, .iface 96 (.pointer (some ⟨y, 0, none⟩)), .iface T (.pointer (some ⟨x, 0, none⟩)), .nilIface, .pointer none, .string ⟨#[]⟩, .int .i64 0, .int .i64 0, .int .i64 0, .int .i64 0, .int .i64 3, .int .i64 q', .bool false]) (results_row rfl rfl (setRow_heap _ _ _ _ _ _ hrbF) Try.underlying146 rfl (by kernel_rfl)) rfl ?_
  refine ⟨_, P3, rfl, rfl, oneMem rfl, ?_⟩
  exact St.cong (St.write HTF.out (grown_setRow _ (w.heap.size + 1) _) (by omega) hab HB.out hrbF (by decide)) rfl rfl

set_option maxRecDepth 100000 in
set_option maxHeartbeats 1600000 in
theorem field_5 (c : Ctx) (N i : Nat) (ih : NodeTo c N) (hf : Fit c.E c.n) (hn : c.n ≤ 400) (lv : Value) (w : World) (P : Nat → Value) (hi : i < c.n) (hs : sz c.E i ≤ N + 1) (hb : Bld c w P) (hI : IntsIn c w lv (kids c.E i)) (hfl : (c.E i).flag = 5) (hop : (c.E i).op ∈ [(0 : Int), 1, 2]) (a : Nat) (hl : kids c.E i = [a]) (hxa : ex (c.E a)) :
    Calls Try.prog 66 #[.pointer (some ⟨c.bb, 0, none⟩), (c.E i).v, lv] w fun e w' => ∃ arr P', e = .returned (.agg arr) ∧ arr.size = 18 ∧ (∀ u ∈ arr.toList, u.oneCell' = true) ∧ St c w P (i + 1) (i + sz c.E i) w' P' := by
  have hfi := hf.2.2 i hi
  have hkl := hfi.kin.len
  have hcn := hfi.2.1
  have hab := hb.lta hi
  have hpb := hb.ltp
  have HB := Lib.hid hb
  have t4 : bits BinOp.and IntKind.i64 5 4 = 4 := by kernel_rfl
  have t8 : bits BinOp.and IntKind.i64 5 8 = 0 := by kernel_rfl
  have t12 : bits BinOp.andNot IntKind.i64 5 12 = 1 := by kernel_rfl
  have HKin := Lib.hid hfi.kin
  obtain ⟨ao, cap, rfl⟩ := hI.form
  obtain ⟨a1, a2, a3, a4, a5⟩ := hf.kid1 hi hl
  obtain ⟨g, o, rfl, hg, hc⟩ := hI.get (i := 0) (k := a) (by rw [hl]; rfl)
  rw [Nat.add_zero] at hc
  have hlen : (kids c.E i).length = 1 := by rw [hl]; rfl
  rw [hlen]
  have HC := Lib.hid (fun (w1 : World) (h1 : Below w.heap.size w w1) => ((St.refl hb a).below h1).node ih hb (Nat.le_refl _) (by omega) hxa (by omega) a2)
  have H1 := Lib.hid a1
  have H3 := Lib.hid a3
  clear a1 a3 hl hlen hI
  have hglt := World.block_lt_of_cell? _ _ hc
  have hgob : ¬ w.heap.size + 1 + 1 = g := (by simp at hglt; omega)
  have hgob' : ¬ g = w.heap.size + 1 + 1 := fun h => hgob h.symm
  have hcp := fun o1 o2 o3 => cell_past o3 (cell_past o2 (cell_past o1 hc))
  have hcp4 := fun o1 o2 o3 o4 => cell_past o4 (cell_past o3 (cell_past o2 (cell_past o1 hc)))
  clear hb ih
  generalize hxe : c.E i = x at *
  obtain ⟨kind, op, text, flag, size⟩ := x
  simp only [Nd.v] at *
  subst hfl
  go_enter Try.func66, Try.ntmps66
  go_upto_region 19 with (first | (go_at_call 58; refine (hides_any _ _ hop).mono ?_; rintro e wc ⟨q', rfl, rfl⟩) | (go_at_call 49; refine (str_any c _ _ P (HB.out.below (by go_grown))).mono ?_; rintro e w1 ⟨y, rfl, hy1, hy2, hb1⟩; have hbw1 : Below w.heap.size w w1 := below_step (Nat.le_refl _) (by go_grown) hb1; have hob1 := (hb1.block (w.heap.size + 1 + 1) (by simp)).trans (block_new' (w := (w.alloc _).alloc _) (n := w.heap.size + 1 + 1) (by simp) _); have hrb1 := (hb1.block (w.heap.size + 1) (by simp)).trans (block_alloc (block_new' (w := w.alloc _) (n := w.heap.size + 1) (by simp) _) _); have hnb1 := (hb1.block (w.heap.size) (by simp; omega)).trans (block_alloc (block_alloc (block_new w _) _) _); have k15 := cell_of_block (i := 15) hob1 rfl; have k6 := cell_of_block (i := 6) hob1 rfl; have kf15 := free_of_block (i := 15) hob1; have kf6 := free_of_block (i := 6) hob1; have kn3 := cell_of_block (i := 3) hnb1 rfl; have hne1 : ¬ w.heap.size + 1 + 1 = w.heap.size + 1 := (by omega); have hne2 : ¬ w.heap.size + 1 = w.heap.size + 1 + 1 := (by omega); have hne3 : ¬ w.heap.size + 1 + 1 = w.heap.size := (by omega); have hne4 : ¬ w.heap.size = w.heap.size + 1 + 1 := (by omega); have hcw := cell_later hbw1 hc) | (go_at_call 31; refine (HC.out _ (by exact (hbw1.setCell (by simp; omega) _).setCell (by simp; omega) _)).mono ?_; rintro e w5 ⟨P3, T, x, rfl, -, -, -, h1, h2⟩; have hob := h2.block (b := w.heap.size + 1 + 1) (show ((w1.setCell ⟨w.heap.size + 1 + 1, 15, none⟩ (.int .i64 3)).setCell ⟨w.heap.size + 1 + 1, 6, none⟩ (.iface 96 (.pointer (some ⟨y, 0, none⟩)))).heap[w.heap.size + 1 + 1]? = some (.cells #[.pointer none, .pointer none, .slice none 0 0, .slice none 0 0, .slice none 0 0, .slice none 0 0, .iface 96 (.pointer (some ⟨y, 0, none⟩)), .nilIface, .nilIface, .pointer none, .string ⟨#[]⟩, .int .i64 0, .int .i64 0, .int .i64 0, .int .i64 0, .int .i64 3, .int .i64 q', .bool true] 146 (0, 0)) by have := block_setCell (i := 6) (u := .iface 96 (.pointer (some ⟨y, 0, none⟩))) (block_setCell (i := 15) (u := .int .i64 3) hob1); simpa using this) (by omega); have hrb := h2.block (b := w.heap.size + 1) (show ((w1.setCell ⟨w.heap.size + 1 + 1, 15, none⟩ (.int .i64 3)).setCell ⟨w.heap.size + 1 + 1, 6, none⟩ (.iface 96 (.pointer (some ⟨y, 0, none⟩)))).heap[w.heap.size + 1]? = _ from block_set_other (block_set_other hrb1 (by simp) _) (by simp) _) (by omega); have hnb := h2.block (b := w.heap.size) (show ((w1.setCell ⟨w.heap.size + 1 + 1, 15, none⟩ (.int .i64 3)).setCell ⟨w.heap.size + 1 + 1, 6, none⟩ (.iface 96 (.pointer (some ⟨y, 0, none⟩)))).heap[w.heap.size]? = _ from block_set_other (block_set_other hnb1 (by simp; omega) _) (by simp; omega) _) (by omega); obtain ⟨l0, l1, l2, l3, l4, l5, l6, l7, l8, l9, l10, l11, l12, l13, l14, l15, l16, l17⟩ := cells18 hob; have lf7 := free_of_block (i := 7) hob; have lf0 := free_of_block (i := 0) hob; obtain ⟨r0, r1, r2, r3, r4, r5, r6, r7, r8, r9, r10, r11, r12, r13, r14, r15, r16, r17⟩ := cells18 hrb; obtain ⟨f0, f1, f2, f3, f4, f5, f6, f7, f8, f9, f10, f11, f12, f13, f14, f15, f16, f17⟩ := free18 hrb; have hn3 := cell_of_block (i := 3) hnb rfl; have hne1 : ¬ w.heap.size + 1 + 1 = w.heap.size + 1 := (by omega); have hne2 : ¬ w.heap.size + 1 = w.heap.size + 1 + 1 := (by omega); have hne3 : ¬ w.heap.size + 1 + 1 = w.heap.size := (by omega); have hne4 : ¬ w.heap.size = w.heap.size + 1 + 1 := (by omega); have HT := Lib.hid (h1.cong H1.out H3.out); have HPK := Lib.hid (And.intro hob hrb); clear h1 h2 hob hrb hnb))
  obtain ⟨WF, hWF⟩ : ∃ WF, (w5.setCell ⟨w.heap.size + 1 + 1, 7, none⟩ (.iface T (.pointer (some ⟨x, 0, none⟩)))) = WF := ⟨_, rfl⟩
  rw [hWF]
  have hobF : WF.heap[w.heap.size + 1 + 1]? = some (.cells #[.pointer none, .pointer none, .slice none 0 0, .slice none 0 0, .slice none 0 0, .slice none 0 0, .iface 96 (.pointer (some ⟨y, 0, none⟩)), .iface T (.pointer (some ⟨x, 0, none⟩)), .nilIface, .pointer none, .string ⟨#[]⟩, .int .i64 0, .int .i64 0, .int .i64 0, .int .i64 0, .int .i64 3, .int .i64 q', .bool true] 146 (0, 0)) := by
    rw [← hWF]
    have := (block_setCell (i := 7) (u := .iface T (.pointer (some ⟨x, 0, none⟩))) HPK.out.1)
    simpa using this
  have hrbF : WF.heap[w.heap.size + 1]? = some (.cells #[.pointer none, .pointer none, .slice none 0 0, .slice none 0 0, .slice none 0 0, .slice none 0 0, .nilIface, .nilIface, .nilIface, .pointer none, .string ⟨#[]⟩, .int .i64 0, .int .i64 0, .int .i64 0, .int .i64 0, .int .i64 0, .int .i64 0, .bool false] 146 (0, 0)) := by
    rw [← hWF]
    exact (block_set_other HPK.out.2 (by simp) _)
  have HTF : Hid (St c w P _ (i + sz c.E i) WF P3) := Lib.hid (by rw [← hWF]; exact (St.set (i := 7) HT.out HB.out hab (by omega) HPK.out.1 (by decide) (.iface T (.pointer (some ⟨x, 0, none⟩)))))
  clear hWF
  refine wp_copyout 146 9 6 95 rfl rfl rfl rfl rfl rfl (w.heap.size + 1 + 1) (w.heap.size + 1) #[.pointer none, .pointer none, .slice none 0 0, .slice none 0 0, .slice none 0 0, .slice none 0 0, .iface 96 (.pointer (some ⟨y, 0, none⟩)), .iface T (.pointer (some ⟨x, 0, none⟩)), .nilIface, .pointer none, .string ⟨#[]⟩, .int .i64 0, .int .i64 0, .int .i64 0, .int .i64 0, .int .i64 3, .int .i64 q', .bool true] hobF hrbF Try.underlying146 rfl (by kernel_rfl) rfl (oneAll rfl) rfl rfl rfl ?_
  go_wp2
  refine bodyPost_ret (v := .agg #[.pointer none, .pointer none, .slice none 0 0, .slice none 0 0, .slice none 0 0, .slice none 0 0, .iface 96 (.pointer (some ⟨y, 0, none⟩)), .iface T (.pointer (some ⟨x, 0, none⟩)), .nilIface, .pointer none, .string ⟨#[]⟩, .int .i64 0, .int .i64 0, .int .i64 0, .int .i64 0, .int .i64 3, .int .i64 q', .bool true]) (results_row rfl rfl (setRow_heap _ _ _ _ _ _ hrbF) Try.underlying146 rfl (by kernel_rfl)) rfl ?_
  refine ⟨_, P3, rfl, rfl, oneMem rfl, ?_⟩
  exact St.cong (St.write HTF.out (grown_setRow _ (w.heap.size + 1) _) (by omega) hab HB.out hrbF (by decide)) rfl rfl
end Go.Proofs.Ytkpfbgeaodopoaa.fnDirect
