/-
  FnDirect: the builder's conditional, assert.
-/
import Derived.Test.YtkpfbgeaodopoaaDirMore
namespace Go.Proofs.Ytkpfbgeaodopoaa.fnDirect
open Go.RowKit
set_option linter.unusedSimpArgs false
set_option linter.unusedVariables false

set_option maxRecDepth 100000 in
set_option maxHeartbeats 1600000 in
theorem cond_two (c : Ctx) (N i : Nat) (ih : NodeTo c N) (hf : Fit c.E c.n) (hn : c.n ≤ 400) (lv : Value) (w : World) (P : Nat → Value) (hi : i < c.n) (hs : sz c.E i ≤ N + 1) (hb : Bld c w P) (hI : IntsIn c w lv (kids c.E i)) (a b : Nat) (hl : kids c.E i = [a, b]) (hxa : ex (c.E a)) (hxb : ex (c.E b)) :
    Calls Try.prog 55 #[.pointer (some ⟨c.bb, 0, none⟩), lv] w fun e w' => ∃ x P', e = .returned (.iface 74 (.pointer (some ⟨x, 0, none⟩))) ∧ w.heap.size ≤ x ∧ NodeAt w' x ∧ St c w P (i + 1) (i + sz c.E i) w' P' ∧ Apart c x (i + 1) (i + sz c.E i) P' := by
  obtain ⟨a1, a2, a3, a4, a5, a6, a7, a8⟩ := hf.kid2 hi hl
  obtain ⟨ao, cap, rfl⟩ := hI.form
  obtain ⟨g, o, rfl, hg, hc⟩ := hI.get (i := 0) (k := a) (by rw [hl]; rfl)
  obtain ⟨g', o', he, -, hbb⟩ := hI.get (i := 1) (k := b) (by rw [hl]; rfl)
  obtain ⟨rfl, rfl⟩ : g = g' ∧ o = o' := by simpa using he
  clear he
  rw [Nat.add_zero] at hc
  have hlen : (kids c.E i).length = 2 := by rw [hl]; rfl
  rw [hlen]
  have hG : some g ≠ some c.pb := by simpa using hg
  have HB := Lib.hid hb
  have HC := Lib.hid (fun (w1 : World) (h1 : Below w.heap.size w w1) => ((St.refl hb a).below h1).node ih hb (Nat.le_refl _) (by omega) hxa (by omega) a2)
  have HD := Lib.hid (fun (w1 : World) (P1 : Nat → Value) (h1 : St c w P a (a + sz c.E a) w1 P1) => (h1.cong rfl a3.symm).node ih hb (by omega) (by omega) hxb (by omega) a4)
  have H1 := Lib.hid a1
  have H5 := Lib.hid a5
  have c1 := hb.c1
  have hbd : Below w.heap.size w w.drew := (Below.refl _ _).drew
  clear hb ih hI hl a1 a3 a5
  go_enter Try.func55, Try.ntmps55
  go_wp2_with (first | (go_at_call 50; refine (count_any c _ _ _ _ _ _ (by omega) (by omega)).mono ?_; rintro e wc ⟨rfl, rfl⟩))
  go_region_held3 (fun w' => w'.cell? ⟨g, o, none⟩ = some (.int .i64 (a : Int)) ∧ w'.cell? ⟨g, o + 1, none⟩ = some (.int .i64 (b : Int))) (first | with_reducible exact ⟨m0, m1⟩ | with_reducible exact ⟨cell_past _ m0, cell_past _ m1⟩ | with_reducible exact ⟨s0, s1⟩ | with_reducible exact ⟨cell_drew hc, cell_drew hbb⟩) (first | (go_at_call_of 31 (Value.int .i64 (a : Int)); refine (HC.out _ (by first | exact hbd | go_grown)).mono ?_; rintro e w3 ⟨P2, T, x, rfl, -, -, hP, h1, h2⟩; have s0 := h2.grown.cell (show World.cell? _ ⟨g, o, none⟩ = some (.int .i64 (a : Int)) by with_reducible exact cell_drew hc) hG; have s1 := h2.grown.cell (show World.cell? _ ⟨g, o + 1, none⟩ = some (.int .i64 (b : Int)) by with_reducible exact cell_drew hbb) hG; have HT := Lib.hid h1; clear h1 h2 hP) | (go_at_call_of 31 (Value.int .i64 (b : Int)); refine (HD.out _ _ HT.out).mono ?_; rintro e w4 ⟨P3, T2, x2, rfl, -, -, hP, h1, h2⟩; have m0 := h2.grown.cell s0 hG; have m1 := h2.grown.cell s1 hG; have HW := Lib.hid (fun (aa : Addr) (v : Value) (hv : w3.cell? aa = some v) (hne : some aa.block ≠ some c.pb) => h2.grown.cell hv hne); have HU := Lib.hid h1; clear h1 h2 hP))
  go_wp2
  go_ret
  have hst := (HU.out.cong H1.out H5.out)
  have hs3 := hst.grown.size
  exact ⟨_, P3, rfl, hs3, ⟨_, _, block_new _ _, rfl⟩, hst.below (by go_grown), hst.apart (Nat.le_refl _)⟩

set_option maxRecDepth 100000 in
set_option maxHeartbeats 1600000 in
theorem cond_three (c : Ctx) (N i : Nat) (ih : NodeTo c N) (hf : Fit c.E c.n) (hn : c.n ≤ 400) (lv : Value) (w : World) (P : Nat → Value) (hi : i < c.n) (hs : sz c.E i ≤ N + 1) (hb : Bld c w P) (hI : IntsIn c w lv (kids c.E i)) (a b d : Nat) (hl : kids c.E i = [a, b, d]) (hxa : ex (c.E a)) (hxb : ex (c.E b)) (hxd : ex (c.E d)) :
    Calls Try.prog 55 #[.pointer (some ⟨c.bb, 0, none⟩), lv] w fun e w' => ∃ x P', e = .returned (.iface 74 (.pointer (some ⟨x, 0, none⟩))) ∧ w.heap.size ≤ x ∧ NodeAt w' x ∧ St c w P (i + 1) (i + sz c.E i) w' P' ∧ Apart c x (i + 1) (i + sz c.E i) P' := by
  obtain ⟨a1, a2, a3, a4, a9, a10, a5, a6, a7, a8, a11⟩ := hf.kid3 hi hl
  obtain ⟨ao, cap, rfl⟩ := hI.form
  obtain ⟨g, o, rfl, hg, hc⟩ := hI.get (i := 0) (k := a) (by rw [hl]; rfl)
  obtain ⟨g', o', he, -, hbb⟩ := hI.get (i := 1) (k := b) (by rw [hl]; rfl)
  obtain ⟨rfl, rfl⟩ : g = g' ∧ o = o' := by simpa using he
  clear he
  obtain ⟨g', o', he, -, hdd⟩ := hI.get (i := 2) (k := d) (by rw [hl]; rfl)
  obtain ⟨rfl, rfl⟩ : g = g' ∧ o = o' := by simpa using he
  clear he
  rw [Nat.add_zero] at hc
  have hlen : (kids c.E i).length = 3 := by rw [hl]; rfl
  rw [hlen]
  have hG : some g ≠ some c.pb := by simpa using hg
  have HB := Lib.hid hb
  have HC := Lib.hid (fun (w1 : World) (h1 : Below w.heap.size w w1) => ((St.refl hb a).below h1).node ih hb (Nat.le_refl _) (by omega) hxa (by omega) a2)
  have HD := Lib.hid (fun (w1 : World) (P1 : Nat → Value) (h1 : St c w P a (a + sz c.E a) w1 P1) => (h1.cong rfl a3.symm).node ih hb (by omega) (by omega) hxb (by omega) a4)
  have HE := Lib.hid (fun (w1 : World) (P1 : Nat → Value) (h1 : St c w P a (b + sz c.E b) w1 P1) => (h1.cong rfl a9.symm).node ih hb (by omega) (by omega) hxd (by omega) a10)
  have H1 := Lib.hid a1
  have H5 := Lib.hid a5
  have H9 := Lib.hid a9
  have c1 := hb.c1
  have hab := hb.lta hi
  have hpb := hb.ltp
  have hbd : Below w.heap.size w w.drew := (Below.refl _ _).drew
  clear hb ih hI hl a1 a3 a5 a9
  go_enter Try.func55, Try.ntmps55
  go_wp2_with (first | (go_at_call 50; refine (count_any c _ _ _ _ _ _ (by omega) (by omega)).mono ?_; rintro e wc ⟨rfl, rfl⟩))
  go_region_held3 (fun w' => w'.cell? ⟨g, o, none⟩ = some (.int .i64 (a : Int)) ∧ w'.cell? ⟨g, o + 1, none⟩ = some (.int .i64 (b : Int))) (first | with_reducible exact ⟨m0, m1⟩ | with_reducible exact ⟨cell_past _ m0, cell_past _ m1⟩ | with_reducible exact ⟨s0, s1⟩ | with_reducible exact ⟨cell_drew hc, cell_drew hbb⟩) (first | (go_at_call_of 31 (Value.int .i64 (a : Int)); refine (HC.out _ (by first | exact hbd | go_grown)).mono ?_; rintro e w3 ⟨P2, T, x, rfl, -, -, hP, h1, h2⟩; have s0 := h2.grown.cell (show World.cell? _ ⟨g, o, none⟩ = some (.int .i64 (a : Int)) by with_reducible exact cell_drew hc) hG; have s1 := h2.grown.cell (show World.cell? _ ⟨g, o + 1, none⟩ = some (.int .i64 (b : Int)) by with_reducible exact cell_drew hbb) hG; have s2 := h2.grown.cell (show World.cell? _ ⟨g, o + 2, none⟩ = some (.int .i64 (d : Int)) by with_reducible exact cell_drew hdd) hG; have HT := Lib.hid h1; clear h1 h2 hP) | (go_at_call_of 31 (Value.int .i64 (b : Int)); refine (HD.out _ _ HT.out).mono ?_; rintro e w4 ⟨P3, T2, x2, rfl, -, -, hP, h1, h2⟩; have m0 := h2.grown.cell s0 hG; have m1 := h2.grown.cell s1 hG; have m2 := h2.grown.cell s2 hG; have HW := Lib.hid (fun (aa : Addr) (v : Value) (hv : w3.cell? aa = some v) (hne : some aa.block ≠ some c.pb) => h2.grown.cell hv hne); have HU := Lib.hid h1; clear h1 h2 hP))
  have m2' := fun o => cell_past o m2
  have hsU := HU.out.grown.size
  go_wp2_with (go_at_call 31; refine (HE.out _ _ (HU.out.below (by go_grown))).mono ?_; rintro e w6 ⟨P4, T3, x3, rfl, -, -, -, h1, h2⟩; have hpk := h2.block (b := w4.heap.size) (block_new w4 _) (by omega); have hp2 := cell_of_block (i := 2) hpk rfl; have fp2 := free_of_block (i := 2) hpk; have hs6 := h2.grown.size; have H6 := Lib.hid (And.intro h1 (And.intro h2 hpk)); clear h1 h2 hpk)
  go_ret
  have hst := (H6.out.1.set (i := 2) HB.out hab hsU H6.out.2.2 (by decide) (.iface T3 (.pointer (some ⟨x3, 0, none⟩)))).cong H1.out H5.out
  refine ⟨_, P4, rfl, hsU, ⟨_, _, block_setCell H6.out.2.2, rfl⟩, hst, ?_⟩
  have hap := ((HU.out.cong rfl H9.out.symm).apart (Nat.le_refl w4.heap.size)).step H6.out.2.1 (by simp)
  rw [H1.out, H5.out] at hap
  exact hap

set_option maxRecDepth 100000 in
set_option maxHeartbeats 1600000 in
theorem both_if_two (c : Ctx) (N i : Nat) (ih : NodeTo c N) (hf : Fit c.E c.n) (hn : c.n ≤ 400) (lv : Value) (w : World) (P : Nat → Value) (hi : i < c.n) (hs : sz c.E i ≤ N + 1) (hb : Bld c w P) (hI : IntsIn c w lv (kids c.E i)) (a b : Nat) (hk : (c.E i).kind = 21) (hl : kids c.E i = [a, b]) (hxa : ex (c.E a)) (hxb : ex (c.E b)) :
    Calls Try.prog 46 #[.pointer (some ⟨c.bb, 0, none⟩), (c.E i).v, lv] w fun e w' => ∃ v P', e = .returned v ∧ St c w P (i + 1) (i + sz c.E i) w' P' ∧ Got c w (i + 1) (i + sz c.E i) i w' P' v := by
  have HC := Lib.hid (fun (w1 : World) (h1 : Below w.heap.size w w1) => cond_two c N i ih hf hn lv w1 P hi hs (hb.below h1) (hI.below h1) a b hl hxa hxb)
  obtain ⟨ao, cap, rfl⟩ := hI.form
  clear hb ih hI hl hf
  generalize hxe : c.E i = x at *
  obtain ⟨kind, op, text, flag, size⟩ := x
  simp only [Nd.v] at *
  subst hk
  go_enter Try.func46, Try.ntmps46
  go_wp2_with (go_at_call 55; refine (HC.out _ (by go_grown)).mono ?_; rintro e w3 ⟨x, P2, rfl, hx1, hx2, h1, hap⟩; have HT := Lib.hid (And.intro h1 hap); clear h1 hap)
  go_ret
  have hst := HT.out.1.from_below (w := w) (by go_grown)
  exact ⟨_, P2, rfl, hst, Got.mk hst rfl (by simp at hx1; omega) hx2 HT.out.2 (Dir.other (by rw [hxe]; rfl) (by rw [hxe]; rfl))⟩

set_option maxRecDepth 100000 in
set_option maxHeartbeats 1600000 in
theorem both_if_three (c : Ctx) (N i : Nat) (ih : NodeTo c N) (hf : Fit c.E c.n) (hn : c.n ≤ 400) (lv : Value) (w : World) (P : Nat → Value) (hi : i < c.n) (hs : sz c.E i ≤ N + 1) (hb : Bld c w P) (hI : IntsIn c w lv (kids c.E i)) (a b d : Nat) (hk : (c.E i).kind = 21) (hl : kids c.E i = [a, b, d]) (hxa : ex (c.E a)) (hxb : ex (c.E b)) (hxd : ex (c.E d)) :
    Calls Try.prog 46 #[.pointer (some ⟨c.bb, 0, none⟩), (c.E i).v, lv] w fun e w' => ∃ v P', e = .returned v ∧ St c w P (i + 1) (i + sz c.E i) w' P' ∧ Got c w (i + 1) (i + sz c.E i) i w' P' v := by
  have HC := Lib.hid (fun (w1 : World) (h1 : Below w.heap.size w w1) => cond_three c N i ih hf hn lv w1 P hi hs (hb.below h1) (hI.below h1) a b d hl hxa hxb hxd)
  obtain ⟨ao, cap, rfl⟩ := hI.form
  clear hb ih hI hl hf
  generalize hxe : c.E i = x at *
  obtain ⟨kind, op, text, flag, size⟩ := x
  simp only [Nd.v] at *
  subst hk
  go_enter Try.func46, Try.ntmps46
  go_wp2_with (go_at_call 55; refine (HC.out _ (by go_grown)).mono ?_; rintro e w3 ⟨x, P2, rfl, hx1, hx2, h1, hap⟩; have HT := Lib.hid (And.intro h1 hap); clear h1 hap)
  go_ret
  have hst := HT.out.1.from_below (w := w) (by go_grown)
  exact ⟨_, P2, rfl, hst, Got.mk hst rfl (by simp at hx1; omega) hx2 HT.out.2 (Dir.other (by rw [hxe]; rfl) (by rw [hxe]; rfl))⟩
end Go.Proofs.Ytkpfbgeaodopoaa.fnDirect
