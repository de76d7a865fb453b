/-
  FnDirect: the builder's field, by its flag (C).
-/
import Derived.Test.YtkpfbgeaodopoaaDirField
namespace Go.Proofs.Ytkpfbgeaodopoaa.fnDirect
open Go.RowKit
set_option linter.unusedSimpArgs false
set_option linter.unusedVariables false

set_option maxRecDepth 100000 in
set_option maxHeartbeats 1600000 in
theorem field_2 (c : Ctx) (N i : Nat) (ih : NodeTo c N) (hf : Fit c.E c.n) (hn : c.n ≤ 400) (lv : Value) (w : World) (P : Nat → Value) (hi : i < c.n) (hs : sz c.E i ≤ N + 1) (hb : Bld c w P) (hI : IntsIn c w lv (kids c.E i)) (hfl : (c.E i).flag = 2) (hop : (c.E i).op ∈ [(0 : Int), 1, 2]) (a b : Nat) (hl : kids c.E i = [a, b]) (hxa : ex (c.E a)) (hxb : ex (c.E b)) :
    Calls Try.prog 66 #[.pointer (some ⟨c.bb, 0, none⟩), (c.E i).v, lv] w fun e w' => ∃ arr P', e = .returned (.agg arr) ∧ arr.size = 18 ∧ (∀ u ∈ arr.toList, u.oneCell' = true) ∧ St c w P (i + 1) (i + sz c.E i) w' P' := by
  have hfi := hf.2.2 i hi
  have hkl := hfi.kin.len
  have hcn := hfi.2.1
  have hab := hb.lta hi
  have hpb := hb.ltp
  have HB := Lib.hid hb
  have t4 : bits BinOp.and IntKind.i64 2 4 = 0 := by kernel_rfl
  have t8 : bits BinOp.and IntKind.i64 2 8 = 0 := by kernel_rfl
  have t12 : bits BinOp.andNot IntKind.i64 2 12 = 2 := by kernel_rfl
  have HKin := Lib.hid hfi.kin
  obtain ⟨ao, cap, rfl⟩ := hI.form
  obtain ⟨a1, a2, a3, a4, a5, a6, a7, a8⟩ := hf.kid2 hi hl
  obtain ⟨g, o, rfl, hg, hc⟩ := hI.get (i := 0) (k := a) (by rw [hl]; rfl)
  obtain ⟨g', o', he, -, hd⟩ := hI.get (i := 1) (k := b) (by rw [hl]; rfl)
  obtain ⟨rfl, rfl⟩ : g = g' ∧ o = o' := by simpa using he
  rw [Nat.add_zero] at hc
  have hlen : (kids c.E i).length = 2 := by rw [hl]; rfl
  rw [hlen]
  have hcap := hI.cap.1
  rw [hlen] at hcap
  have hG : some g ≠ some c.pb := by simpa using hg
  have HC := Lib.hid (fun (w1 : World) (h1 : Below w.heap.size w w1) => ((St.refl hb a).below h1).node ih hb (Nat.le_refl _) (by omega) hxa (by omega) a2)
  have HD := Lib.hid (fun (w1 : World) (P1 : Nat → Value) (h1 : St c w P a (a + sz c.E a) w1 P1) => (h1.cong rfl a3.symm).node ih hb (by omega) (by omega) hxb (by omega) a4)
  have H1 := Lib.hid a1
  have H5 := Lib.hid a5
  clear a1 a3 a5 he hl hlen hI
  have hcap1 : ¬ cap = 1 := by omega
  have hcap2 : ¬ (1 : Nat) = cap := by omega
  have hcap3 : (1 : Int) ≤ (cap : Int) := by omega
  have hcap4 : 1 ≤ cap := by omega
  have hcap5 : ¬ cap - 1 = 0 := by omega
  have hglt := World.block_lt_of_cell? _ _ hc
  have hgob : ¬ w.heap.size + 1 + 1 = g := (by simp at hglt; omega)
  have hgob' : ¬ g = w.heap.size + 1 + 1 := fun h => hgob h.symm
  have hcp := fun o1 o2 o3 => cell_past o3 (cell_past o2 (cell_past o1 hc))
  have hcp4 := fun o1 o2 o3 o4 => cell_past o4 (cell_past o3 (cell_past o2 (cell_past o1 hc)))
  clear hb ih
  generalize hxe : c.E i = x at *
  obtain ⟨kind, op, text, flag, size⟩ := x
  simp only [Nd.v] at *
  subst hfl
  go_enter Try.func66, Try.ntmps66
  go_upto_region 19 with (first | (go_at_call 58; refine (hides_any _ _ hop).mono ?_; rintro e wc ⟨q', rfl, rfl⟩) | (go_at_call_of 31 (Value.int .i64 (a : Int)); refine (HC.out _ (by go_grown)).mono ?_; rintro e w3 ⟨P2, T0, x0, rfl, -, -, -, h1, h2⟩; have hob1 := h2.block (b := w.heap.size + 1 + 1) (block_new' (w := (w.alloc _).alloc _) (n := w.heap.size + 1 + 1) (by simp) _) (by omega); have hrb1 := h2.block (b := w.heap.size + 1) (block_alloc (block_new' (w := w.alloc _) (n := w.heap.size + 1) (by simp) _) _) (by omega); have hnb1 := h2.block (b := w.heap.size) (block_alloc (block_alloc (block_new w _) _) _) (by omega); have k15 := cell_of_block (i := 15) hob1 rfl; have k6 := cell_of_block (i := 6) hob1 rfl; have kf15 := free_of_block (i := 15) hob1; have kf6 := free_of_block (i := 6) hob1; have kn3 := cell_of_block (i := 3) hnb1 rfl; have hne1 : ¬ w.heap.size + 1 + 1 = w.heap.size + 1 := (by omega); have hne2 : ¬ w.heap.size + 1 = w.heap.size + 1 + 1 := (by omega); have hne3 : ¬ w.heap.size + 1 + 1 = w.heap.size := (by omega); have hne4 : ¬ w.heap.size = w.heap.size + 1 + 1 := (by omega); have hdw := h2.grown.cell (show World.cell? _ ⟨g, o + 1, none⟩ = some (.int .i64 (b : Int)) by exact cell_past _ (cell_past _ (cell_past _ hd))) hG; have HT1 := Lib.hid ((h1.set (i := 15) HB.out hab (by omega) hob1 (by decide) (.int .i64 2)).set (i := 6) HB.out hab (by omega) (block_setCell hob1) (by decide) (.iface T0 (.pointer (some ⟨x0, 0, none⟩)))); clear h1 h2) | (go_at_call_of 31 (Value.int .i64 (b : Int)); refine (HD.out _ _ HT1.out).mono ?_; rintro e w5 ⟨P3, T, x, rfl, -, -, -, h1, h2⟩; have hob := h2.block (b := w.heap.size + 1 + 1) (show ((w3.setCell ⟨w.heap.size + 1 + 1, 15, none⟩ (.int .i64 2)).setCell ⟨w.heap.size + 1 + 1, 6, none⟩ (.iface T0 (.pointer (some ⟨x0, 0, none⟩)))).heap[w.heap.size + 1 + 1]? = some (.cells #[.pointer none, .pointer none, .slice none 0 0, .slice none 0 0, .slice none 0 0, .slice none 0 0, .iface T0 (.pointer (some ⟨x0, 0, none⟩)), .nilIface, .nilIface, .pointer none, .string ⟨#[]⟩, .int .i64 0, .int .i64 0, .int .i64 0, .int .i64 0, .int .i64 2, .int .i64 q', .bool false] 146 (0, 0)) by have := block_setCell (i := 6) (u := .iface T0 (.pointer (some ⟨x0, 0, none⟩))) (block_setCell (i := 15) (u := .int .i64 2) hob1); simpa using this) (by omega); have hrb := h2.block (b := w.heap.size + 1) (show ((w3.setCell ⟨w.heap.size + 1 + 1, 15, none⟩ (.int .i64 2)).setCell ⟨w.heap.size + 1 + 1, 6, none⟩ (.iface T0 (.pointer (some ⟨x0, 0, none⟩)))).heap[w.heap.size + 1]? = _ from block_set_other (block_set_other hrb1 (by simp) _) (by simp) _) (by omega); have hnb := h2.block (b := w.heap.size) (show ((w3.setCell ⟨w.heap.size + 1 + 1, 15, none⟩ (.int .i64 2)).setCell ⟨w.heap.size + 1 + 1, 6, none⟩ (.iface T0 (.pointer (some ⟨x0, 0, none⟩)))).heap[w.heap.size]? = _ from block_set_other (block_set_other hnb1 (by simp; omega) _) (by simp; omega) _) (by omega); obtain ⟨l0, l1, l2, l3, l4, l5, l6, l7, l8, l9, l10, l11, l12, l13, l14, l15, l16, l17⟩ := cells18 hob; have lf7 := free_of_block (i := 7) hob; have lf0 := free_of_block (i := 0) hob; obtain ⟨r0, r1, r2, r3, r4, r5, r6, r7, r8, r9, r10, r11, r12, r13, r14, r15, r16, r17⟩ := cells18 hrb; obtain ⟨f0, f1, f2, f3, f4, f5, f6, f7, f8, f9, f10, f11, f12, f13, f14, f15, f16, f17⟩ := free18 hrb; have hn3 := cell_of_block (i := 3) hnb rfl; have hne1 : ¬ w.heap.size + 1 + 1 = w.heap.size + 1 := (by omega); have hne2 : ¬ w.heap.size + 1 = w.heap.size + 1 + 1 := (by omega); have hne3 : ¬ w.heap.size + 1 + 1 = w.heap.size := (by omega); have hne4 : ¬ w.heap.size = w.heap.size + 1 + 1 := (by omega); have HT := Lib.hid (h1.cong H1.out H5.out); have HPK := Lib.hid (And.intro hob hrb); clear h1 h2 hob hrb hnb))
  obtain ⟨WF, hWF⟩ : ∃ WF, (w5.setCell ⟨w.heap.size + 1 + 1, 7, none⟩ (.iface T (.pointer (some ⟨x, 0, none⟩)))) = WF := ⟨_, rfl⟩
  rw [hWF]
  have hobF : WF.heap[w.heap.size + 1 + 1]? = some (.cells #[.pointer none, .pointer none, .slice none 0 0, .slice none 0 0, .slice none 0 0, .slice none 0 0, .iface T0 (.pointer (some ⟨x0, 0, none⟩)), .iface T (.pointer (some ⟨x, 0, none⟩)), .nilIface, .pointer none, .string ⟨#[]⟩, .int .i64 0, .int .i64 0, .int .i64 0, .int .i64 0, .int .i64 2, .int .i64 q', .bool false] 146 (0, 0)) := by
    rw [← hWF]
    have := (block_setCell (i := 7) (u := .iface T (.pointer (some ⟨x, 0, none⟩))) HPK.out.1)
    simpa using this
  have hrbF : WF.heap[w.heap.size + 1]? = some (.cells #[.pointer none, .pointer none, .slice none 0 0, .slice none 0 0, .slice none 0 0, .slice none 0 0, .nilIface, .nilIface, .nilIface, .pointer none, .string ⟨#[]⟩, .int .i64 0, .int .i64 0, .int .i64 0, .int .i64 0, .int .i64 0, .int .i64 0, .bool false] 146 (0, 0)) := by
    rw [← hWF]
    exact (block_set_other HPK.out.2 (by simp) _)
  have HTF : Hid (St c w P _ (i + sz c.E i) WF P3) := Lib.hid (by rw [← hWF]; exact (St.set (i := 7) HT.out HB.out hab (by omega) HPK.out.1 (by decide) (.iface T (.pointer (some ⟨x, 0, none⟩)))))
  clear hWF
  refine wp_copyout 146 9 6 95 rfl rfl rfl rfl rfl rfl (w.heap.size + 1 + 1) (w.heap.size + 1) #[.pointer none, .pointer none, .slice none 0 0, .slice none 0 0, .slice none 0 0, .slice none 0 0, .iface T0 (.pointer (some ⟨x0, 0, none⟩)), .iface T (.pointer (some ⟨x, 0, none⟩)), .nilIface, .pointer none, .string ⟨#[]⟩, .int .i64 0, .int .i64 0, .int .i64 0, .int .i64 0, .int .i64 2, .int .i64 q', .bool false] hobF hrbF Try.underlying146 rfl (by kernel_rfl) rfl (oneAll rfl) rfl rfl rfl ?_
  go_wp2
  refine bodyPost_ret (v := .agg #[.pointer none, .pointer none, .slice none 0 0, .slice none 0 0, .slice none 0 0, .slice none 0 0, .iface T0 (.pointer (some ⟨x0, 0, none⟩)), .iface T (.pointer (some ⟨x, 0, none⟩)), .nilIface, .pointer none, .string ⟨#[]⟩, .int .i64 0, .int .i64 0, .int .i64 0, .int .i64 0, .int .i64 2, .int .i64 q', .bool false]) (results_row rfl rfl (setRow_heap _ _ _ _ _ _ hrbF) Try.underlying146 rfl (by kernel_rfl)) rfl ?_
  refine ⟨_, P3, rfl, rfl, oneMem rfl, ?_⟩
  exact St.cong (St.write HTF.out (grown_setRow _ (w.heap.size + 1) _) (by omega) hab HB.out hrbF (by decide)) rfl rfl

set_option maxRecDepth 100000 in
set_option maxHeartbeats 1600000 in
theorem field_6 (c : Ctx) (N i : Nat) (ih : NodeTo c N) (hf : Fit c.E c.n) (hn : c.n ≤ 400) (lv : Value) (w : World) (P : Nat → Value) (hi : i < c.n) (hs : sz c.E i ≤ N + 1) (hb : Bld c w P) (hI : IntsIn c w lv (kids c.E i)) (hfl : (c.E i).flag = 6) (hop : (c.E i).op ∈ [(0 : Int), 1, 2]) (a b : Nat) (hl : kids c.E i = [a, b]) (hxa : ex (c.E a)) (hxb : ex (c.E b)) :
    Calls Try.prog 66 #[.pointer (some ⟨c.bb, 0, none⟩), (c.E i).v, lv] w fun e w' => ∃ arr P', e = .returned (.agg arr) ∧ arr.size = 18 ∧ (∀ u ∈ arr.toList, u.oneCell' = true) ∧ St c w P (i + 1) (i + sz c.E i) w' P' := by
  have hfi := hf.2.2 i hi
  have hkl := hfi.kin.len
  have hcn := hfi.2.1
  have hab := hb.lta hi
  have hpb := hb.ltp
  have HB := Lib.hid hb
  have t4 : bits BinOp.and IntKind.i64 6 4 = 4 := by kernel_rfl
  have t8 : bits BinOp.and IntKind.i64 6 8 = 0 := by kernel_rfl
  have t12 : bits BinOp.andNot IntKind.i64 6 12 = 2 := by kernel_rfl
  have HKin := Lib.hid hfi.kin
  obtain ⟨ao, cap, rfl⟩ := hI.form
  obtain ⟨a1, a2, a3, a4, a5, a6, a7, a8⟩ := hf.kid2 hi hl
  obtain ⟨g, o, rfl, hg, hc⟩ := hI.get (i := 0) (k := a) (by rw [hl]; rfl)
  obtain ⟨g', o', he, -, hd⟩ := hI.get (i := 1) (k := b) (by rw [hl]; rfl)
  obtain ⟨rfl, rfl⟩ : g = g' ∧ o = o' := by simpa using he
  rw [Nat.add_zero] at hc
  have hlen : (kids c.E i).length = 2 := by rw [hl]; rfl
  rw [hlen]
  have hcap := hI.cap.1
  rw [hlen] at hcap
  have hG : some g ≠ some c.pb := by simpa using hg
  have HC := Lib.hid (fun (w1 : World) (h1 : Below w.heap.size w w1) => ((St.refl hb a).below h1).node ih hb (Nat.le_refl _) (by omega) hxa (by omega) a2)
  have HD := Lib.hid (fun (w1 : World) (P1 : Nat → Value) (h1 : St c w P a (a + sz c.E a) w1 P1) => (h1.cong rfl a3.symm).node ih hb (by omega) (by omega) hxb (by omega) a4)
  have H1 := Lib.hid a1
  have H5 := Lib.hid a5
  clear a1 a3 a5 he hl hlen hI
  have hcap1 : ¬ cap = 1 := by omega
  have hcap2 : ¬ (1 : Nat) = cap := by omega
  have hcap3 : (1 : Int) ≤ (cap : Int) := by omega
  have hcap4 : 1 ≤ cap := by omega
  have hcap5 : ¬ cap - 1 = 0 := by omega
  have hglt := World.block_lt_of_cell? _ _ hc
  have hgob : ¬ w.heap.size + 1 + 1 = g := (by simp at hglt; omega)
  have hgob' : ¬ g = w.heap.size + 1 + 1 := fun h => hgob h.symm
  have hcp := fun o1 o2 o3 => cell_past o3 (cell_past o2 (cell_past o1 hc))
  have hcp4 := fun o1 o2 o3 o4 => cell_past o4 (cell_past o3 (cell_past o2 (cell_past o1 hc)))
  clear hb ih
  generalize hxe : c.E i = x at *
  obtain ⟨kind, op, text, flag, size⟩ := x
  simp only [Nd.v] at *
  subst hfl
  go_enter Try.func66, Try.ntmps66
  go_upto_region 19 with (first | (go_at_call 58; refine (hides_any _ _ hop).mono ?_; rintro e wc ⟨q', rfl, rfl⟩) | (go_at_call_of 31 (Value.int .i64 (a : Int)); refine (HC.out _ (by go_grown)).mono ?_; rintro e w3 ⟨P2, T0, x0, rfl, -, -, -, h1, h2⟩; have hob1 := h2.block (b := w.heap.size + 1 + 1) (block_new' (w := (w.alloc _).alloc _) (n := w.heap.size + 1 + 1) (by simp) _) (by omega); have hrb1 := h2.block (b := w.heap.size + 1) (block_alloc (block_new' (w := w.alloc _) (n := w.heap.size + 1) (by simp) _) _) (by omega); have hnb1 := h2.block (b := w.heap.size) (block_alloc (block_alloc (block_new w _) _) _) (by omega); have k15 := cell_of_block (i := 15) hob1 rfl; have k6 := cell_of_block (i := 6) hob1 rfl; have kf15 := free_of_block (i := 15) hob1; have kf6 := free_of_block (i := 6) hob1; have kn3 := cell_of_block (i := 3) hnb1 rfl; have hne1 : ¬ w.heap.size + 1 + 1 = w.heap.size + 1 := (by omega); have hne2 : ¬ w.heap.size + 1 = w.heap.size + 1 + 1 := (by omega); have hne3 : ¬ w.heap.size + 1 + 1 = w.heap.size := (by omega); have hne4 : ¬ w.heap.size = w.heap.size + 1 + 1 := (by omega); have hdw := h2.grown.cell (show World.cell? _ ⟨g, o + 1, none⟩ = some (.int .i64 (b : Int)) by exact cell_past _ (cell_past _ (cell_past _ hd))) hG; have HT1 := Lib.hid ((h1.set (i := 15) HB.out hab (by omega) hob1 (by decide) (.int .i64 2)).set (i := 6) HB.out hab (by omega) (block_setCell hob1) (by decide) (.iface T0 (.pointer (some ⟨x0, 0, none⟩)))); clear h1 h2) | (go_at_call_of 31 (Value.int .i64 (b : Int)); refine (HD.out _ _ HT1.out).mono ?_; rintro e w5 ⟨P3, T, x, rfl, -, -, -, h1, h2⟩; have hob := h2.block (b := w.heap.size + 1 + 1) (show ((w3.setCell ⟨w.heap.size + 1 + 1, 15, none⟩ (.int .i64 2)).setCell ⟨w.heap.size + 1 + 1, 6, none⟩ (.iface T0 (.pointer (some ⟨x0, 0, none⟩)))).heap[w.heap.size + 1 + 1]? = some (.cells #[.pointer none, .pointer none, .slice none 0 0, .slice none 0 0, .slice none 0 0, .slice none 0 0, .iface T0 (.pointer (some ⟨x0, 0, none⟩)), .nilIface, .nilIface, .pointer none, .string ⟨#[]⟩, .int .i64 0, .int .i64 0, .int .i64 0, .int .i64 0, .int .i64 2, .int .i64 q', .bool true] 146 (0, 0)) by have := block_setCell (i := 6) (u := .iface T0 (.pointer (some ⟨x0, 0, none⟩))) (block_setCell (i := 15) (u := .int .i64 2) hob1); simpa using this) (by omega); have hrb := h2.block (b := w.heap.size + 1) (show ((w3.setCell ⟨w.heap.size + 1 + 1, 15, none⟩ (.int .i64 2)).setCell ⟨w.heap.size + 1 + 1, 6, none⟩ (.iface T0 (.pointer (some ⟨x0, 0, none⟩)))).heap[w.heap.size + 1]? = _ from block_set_other (block_set_other hrb1 (by simp) _) (by simp) _) (by omega); have hnb := h2.block (b := w.heap.size) (show ((w3.setCell ⟨w.heap.size + 1 + 1, 15, none⟩ (.int .i64 2)).setCell ⟨w.heap.size + 1 + 1, 6, none⟩ (.iface T0 (.pointer (some ⟨x0, 0, none⟩)))).heap[w.heap.size]? = _ from block_set_other (block_set_other hnb1 (by simp; omega) _) (by simp; omega) _) (by omega); obtain ⟨l0, l1, l2, l3, l4, l5, l6, l7, l8, l9, l10, l11, l12, l13, l14, l15, l16, l17⟩ := cells18 hob; have lf7 := free_of_block (i := 7) hob; have lf0 := free_of_block (i := 0) hob; obtain ⟨r0, r1, r2, r3, r4, r5, r6, r7, r8, r9, r10, r11, r12, r13, r14, r15, r16, r17⟩ := cells18 hrb; obtain ⟨f0, f1, f2, f3, f4, f5, f6, f7, f8, f9, f10, f11, f12, f13, f14, f15, f16, f17⟩ := free18 hrb; have hn3 := cell_of_block (i := 3) hnb rfl; have hne1 : ¬ w.heap.size + 1 + 1 = w.heap.size + 1 := (by omega); have hne2 : ¬ w.heap.size + 1 = w.heap.size + 1 + 1 := (by omega); have hne3 : ¬ w.heap.size + 1 + 1 = w.heap.size := (by omega); have hne4 : ¬ w.heap.size = w.heap.size + 1 + 1 := (by omega); have HT := Lib.hid (h1.cong H1.out H5.out); have HPK := Lib.hid (And.intro hob hrb); clear h1 h2 hob hrb hnb))
  obtain ⟨WF, hWF⟩ : ∃ WF, (w5.setCell ⟨w.heap.size + 1 + 1, 7, none⟩ (.iface T (.pointer (some ⟨x, 0, none⟩)))) = WF := ⟨_, rfl⟩
  rw [hWF]
  have hobF : WF.heap[w.heap.size + 1 + 1]? = some (.cells #[.pointer none, .pointer none, .slice none 0 0, .slice none 0 0, .slice none 0 0, .slice none 0 0, .iface T0 (.pointer (some ⟨x0, 0, none⟩)), .iface T (.pointer (some ⟨x, 0, none⟩)), .nilIface, .pointer none, .string ⟨#[]⟩, .int .i64 0, .int .i64 0, .int .i64 0, .int .i64 0, .int .i64 2, .int .i64 q', .bool true] 146 (0, 0)) := by
    rw [← hWF]
    have := (block_setCell (i := 7) (u := .iface T (.pointer (some ⟨x, 0, none⟩))) HPK.out.1)
    simpa using this
  have hrbF : WF.heap[w.heap.size + 1]? = some (.cells #[.pointer none, .pointer none, .slice none 0 0, .slice none 0 0, .slice none 0 0, .slice none 0 0, .nilIface, .nilIface, .nilIface, .pointer none, .string ⟨#[]⟩, .int .i64 0, .int .i64 0, .int .i64 0, .int .i64 0, .int .i64 0, .int .i64 0, .bool false] 146 (0, 0)) := by
    rw [← hWF]
    exact (block_set_other HPK.out.2 (by simp) _)
  have HTF : Hid (St c w P _ (i + sz c.E i) WF P3) := Lib.hid (by rw [← hWF]; exact (St.set (i := 7) HT.out HB.out hab (by omega) HPK.out.1 (by decide) (.iface T (.pointer (some ⟨x, 0, none⟩)))))
  clear hWF
  refine wp_copyout 146 9 6 95 rfl rfl rfl rfl rfl rfl (w.heap.size + 1 + 1) (w.heap.size + 1) #[.pointer none, .pointer none, .slice none 0 0, .slice none 0 0, .slice none 0 0, .slice none 0 0, .iface T0 (.pointer (some ⟨x0, 0, none⟩)), .iface T (.pointer (some ⟨x, 0, none⟩)), .nilIface, .pointer none, .string ⟨#[]⟩, .int .i64 0, .int .i64 0, .int .i64 0, .int .i64 0, .int .i64 2, .int .i64 q', .bool true] hobF hrbF Try.underlying146 rfl (by kernel_rfl) rfl (oneAll rfl) rfl rfl rfl ?_
  go_wp2
  refine bodyPost_ret (v := .agg #[.pointer none, .pointer none, .slice none 0 0, .slice none 0 0, .slice none 0 0, .slice none 0 0, .iface T0 (.pointer (some ⟨x0, 0, none⟩)), .iface T (.pointer (some ⟨x, 0, none⟩)), .nilIface, .pointer none, .string ⟨#[]⟩, .int .i64 0, .int .i64 0, .int .i64 0, .int .i64 0, .int .i64 2, .int .i64 q', .bool true]) (results_row rfl rfl (setRow_heap _ _ _ _ _ _ hrbF) Try.underlying146 rfl (by kernel_rfl)) rfl ?_
  refine ⟨_, P3, rfl, rfl, oneMem rfl, ?_⟩
  exact St.cong (St.write HTF.out (grown_setRow _ (w.heap.size + 1) _) (by omega) hab HB.out hrbF (by decide)) rfl rfl
end Go.Proofs.Ytkpfbgeaodopoaa.fnDirect
