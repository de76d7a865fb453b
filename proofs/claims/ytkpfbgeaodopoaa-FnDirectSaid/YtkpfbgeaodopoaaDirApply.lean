/-
  FnDirect: the builder's calls and array comprehensions.
-/
import Derived.Test.YtkpfbgeaodopoaaDirArgs
import Derived.Test.YtkpfbgeaodopoaaDirSpec
namespace Go.Proofs.Ytkpfbgeaodopoaa.fnDirect
open Go.RowKit
set_option linter.unusedSimpArgs false
set_option linter.unusedVariables false

theorem box3 (w : World) (a b d e f : Value) (t : TypeId) : (w.alloc (.cells #[a, b, d, e, f] t)).cell? ⟨w.heap.size, 3, none⟩ = some e := cell_of_block (block_new w _) rfl

theorem IntsIn.none {c : Ctx} {w : World} (ao : Option Addr) (cap : Nat) (hc : cap ≤ maxLen) : IntsIn c w (.slice ao 0 cap) [] := ⟨ao, cap, rfl, Nat.zero_le _, hc, .inl rfl⟩


set_option maxRecDepth 100000 in
set_option maxHeartbeats 1600000 in
theorem both_apply (c : Ctx) (N i : Nat) (ih : NodeTo c N) (hf : Fit c.E c.n) (hn : c.n ≤ 400) (lv : Value) (w : World) (P : Nat → Value) (hi : i < c.n) (hs : sz c.E i ≤ N + 1) (hb : Bld c w P) (hI : IntsIn c w lv (kids c.E i)) (a : Nat) (l : List Nat) (hk : (c.E i).kind = 18) (hl : kids c.E i = a :: l) (hxa : ex (c.E a)) (hp : ∀ k ∈ l, Arg c.E k) (ho : ArgOrd c.E l) :
    Calls Try.prog 46 #[.pointer (some ⟨c.bb, 0, none⟩), (c.E i).v, lv] w fun e w' => ∃ v P', e = .returned v ∧ St c w P (i + 1) (i + sz c.E i) w' P' ∧ Got c w (i + 1) (i + sz c.E i) i w' P' v := by
  have hfi := hf.2.2 i hi
  have hcn := hfi.2.1
  have hkin := hfi.kin
  rw [hl] at hkin
  obtain ⟨a1, a2, a3, a4⟩ := hkin.cons_inv
  have a5 := a4.le
  rw [← a1] at a2 a4 a5
  obtain ⟨ao, cap, rfl⟩ := hI.form
  obtain ⟨g, o, rfl, hg, hc⟩ := hI.get (i := 0) (k := a) (by rw [hl]; rfl)
  rw [Nat.add_zero] at hc
  have hcap := hI.cap
  have hlen : (kids c.E i).length = l.length + 1 := by rw [hl]; rfl
  have hkl := a4.len
  have hmax := hcap.2
  have hcl := hcap.1
  rw [hlen] at hI hcl ⊢
  rw [hl] at hI
  have HB := Lib.hid hb
  have HF := Lib.hid hf
  have HI := Lib.hid hI
  have HC := Lib.hid (fun (w1 : World) (h1 : Below w.heap.size w w1) => ((St.refl hb a).below h1).node ih hb (Nat.le_refl _) (by omega) hxa (by omega) a2)
  have HD := Lib.hid (fun (lv : Value) (w1 : World) (P1 : Nat → Value) (hb1 : Bld c w1 P1) (hi1 : IntsIn c w1 lv l) => arguments_any c N ih hf hn l (a + sz c.E a) (i + sz c.E i) lv w1 P1 a4 hcn hp ho (fun k h1 h2 => by omega) hb1 hi1)
  have hG : some g ≠ some c.pb := by simpa using hg
  have hpb := hb.ltp
  have hN : some w.heap.size ≠ some c.pb := by simp; omega
  have c0 := hb.c0
  have c0' := fun o => cell_past o c0
  have H1 := Lib.hid a1
  have HL := Lib.hid hl
  have HK := Lib.hid hk
  have b1 : i < a := by omega
  have hw2 : (l.length : Int) + 1 ≤ c.n := by omega
  have hw3 : (1 : Int) ≤ (l.length : Int) + 1 := by omega
  have hw4 : 1 ≤ l.length + 1 := by omega
  have hw5 : l.length + 1 ≤ cap := by omega
  clear hb ih hI hl a1 a3 a4 hf hfi hkin hlen hcap
  generalize hxe : c.E i = x at *
  obtain ⟨kind, op, text, flag, size⟩ := x
  simp only [Nd.v] at *
  subst hk
  have hspl : (l = [] ∧ cap = 1) ∨ ¬ cap = 1 := by
    by_cases h : cap = 1
    · exact .inl ⟨List.length_eq_zero_iff.1 (by omega), h⟩
    · exact .inr h
  rcases hspl with ⟨rfl, rfl⟩ | hc1
  all_goals
    go_enter Try.func46, Try.ntmps46
    have hW : Below w.heap.size w (w.alloc (.cells #[.int .i64 18, .int .i64 op, .string text, .int .i64 flag, .int .i64 size] 28)).drew := by go_grown
    go_wp2_with (first | (go_at_call 50; refine (count_any c _ _ _ _ _ _ (by omega) (by omega)).mono ?_; rintro e wc ⟨rfl, rfl⟩))
    go_region_held3 (fun w' => w'.cell? ⟨g, o, none⟩ = some (.int .i64 (a : Int)) ∧ w'.cell? ⟨w.heap.size, 3, none⟩ = some (.int .i64 flag)) (first | with_reducible exact ⟨m0, m1⟩ | with_reducible exact ⟨cell_past _ m0, cell_past _ m1⟩ | with_reducible exact ⟨s0, s1⟩ | with_reducible exact ⟨cell_drew (cell_past _ hc), cell_drew (box3 w _ _ _ _ _ _)⟩) (first | (go_at_call 31; refine (HC.out _ (by go_grown)).mono ?_; rintro e w3 ⟨P2, T, x, rfl, -, -, hP, h1, h2⟩; have s0 := h2.grown.cell (show World.cell? _ ⟨g, o, none⟩ = some (.int .i64 (a : Int)) from cell_drew (cell_past _ hc)) hG; have s1 := h2.grown.cell (show World.cell? _ ⟨w.heap.size, 3, none⟩ = some (.int .i64 flag) from cell_drew (box3 w _ _ _ _ _ _)) hN; have HI3 := Lib.hid ((HI.out.below hW).grown h2.grown); have HT := Lib.hid (And.intro h1 hP); clear h1 h2 hP) | (go_at_call 52; refine (HD.out _ _ _ HT.out.1.bld (by first | exact HI3.out.tail | exact IntsIn.none _ _ (by simp))).mono ?_; rintro e w4 ⟨v1, v2, P3, rfl, ⟨ao5, n5, cap5, rfl⟩, ⟨ao6, n6, cap6, rfl⟩, h1⟩; have m0 := h1.grown.cell s0 hG; have m1 := h1.grown.cell s1 hN; have HU := Lib.hid (And.intro (HT.out.1.seq h1 (by omega) a5 HB.out) (h1.out a (.inl (by omega)))); clear h1))
    go_wp2
    go_ret
    have hs3 := HU.out.1.grown.size
    have hst := (HU.out.1.cong H1.out rfl)
    refine ⟨_, P3, rfl, hst.below (by go_grown), Got.mk hst rfl (by simpa using hs3) ⟨_, _, block_new _ _, rfl⟩ (hst.apart (Nat.le_refl _)) (Dir.mk1 (f := 0) (by rw [hxe]; rfl) (by rw [hxe]; simp) HL.out b1 (by omega) (block_new _ _) (by rw [HU.out.2, HT.out.2]; rfl))⟩

set_option maxRecDepth 100000 in
set_option maxHeartbeats 1600000 in
theorem sugar_arraycomp (c : Ctx) (N i : Nat) (ih : NodeTo c N) (hf : Fit c.E c.n) (hn : c.n ≤ 400) (lv : Value) (w : World) (P : Nat → Value) (hi : i < c.n) (hs : sz c.E i ≤ N + 1) (hb : Bld c w P) (hI : IntsIn c w lv (kids c.E i)) (a : Nat) (l : List Nat) (hk : (c.E i).kind = 12) (hl : kids c.E i = a :: l) (hxa : ex (c.E a)) (hsp : Specs c.E l) (hkd : ∀ k ∈ l, Spc c.E k) :
    Calls Try.prog 48 #[.pointer (some ⟨c.bb, 0, none⟩), (c.E i).v, lv] w fun e w' => ∃ v P', e = .returned v ∧ St c w P (i + 1) (i + sz c.E i) w' P' ∧ Got c w (i + 1) (i + sz c.E i) i w' P' v := by
  have hfi := hf.2.2 i hi
  have hcn := hfi.2.1
  have hkin := hfi.kin
  rw [hl] at hkin
  obtain ⟨a1, a2, a3, a4⟩ := hkin.cons_inv
  have a5 := a4.le
  rw [← a1] at a2 a4 a5
  obtain ⟨ao, cap, rfl⟩ := hI.form
  obtain ⟨g, o, rfl, hg, hc⟩ := hI.get (i := 0) (k := a) (by rw [hl]; rfl)
  rw [Nat.add_zero] at hc
  have hcap := hI.cap
  have hlen : (kids c.E i).length = l.length + 1 := by rw [hl]; rfl
  have hkl := a4.len
  have hmax := hcap.2
  have hcl := hcap.1
  rw [hlen] at hI hcl ⊢
  rw [hl] at hI
  have HB := Lib.hid hb
  have HF := Lib.hid hf
  have HI := Lib.hid hI
  have HC := Lib.hid (fun (w1 : World) (h1 : Below w.heap.size w w1) => ((St.refl hb a).below h1).node ih hb (Nat.le_refl _) (by omega) hxa (by omega) a2)
  have HD := Lib.hid (fun (lv : Value) (w1 : World) (P1 : Nat → Value) (hb1 : Bld c w1 P1) (hi1 : IntsIn c w1 lv l) => specs_any c N ih hf hn l (a + sz c.E a) (i + sz c.E i) lv w1 P1 a4 hcn hsp hkd (fun k h1 h2 => by omega) hb1 hi1)
  have hG : some g ≠ some c.pb := by simpa using hg
  have hpb := hb.ltp
  have hN : some w.heap.size ≠ some c.pb := by simp; omega
  have c0 := hb.c0
  have c0' := fun o => cell_past o c0
  have H1 := Lib.hid a1
  have HL := Lib.hid hl
  have HK := Lib.hid hk
  have b1 : i < a := by omega
  have hw2 : (l.length : Int) + 1 ≤ c.n := by omega
  have hw3 : (1 : Int) ≤ (l.length : Int) + 1 := by omega
  have hw4 : 1 ≤ l.length + 1 := by omega
  have hw5 : l.length + 1 ≤ cap := by omega
  have hl2 : 1 ≤ l.length := by obtain ⟨k, l', rfl, -⟩ := hsp; simp
  have hw6 : (2 : Int) ≤ (l.length : Int) + 1 := by omega
  clear hb ih hI hl a1 a3 a4 hf hfi hkin hlen hcap
  generalize hxe : c.E i = x at *
  obtain ⟨kind, op, text, flag, size⟩ := x
  simp only [Nd.v] at *
  subst hk
  have hc1 : ¬ cap = 1 := by omega
  all_goals
    go_enter Try.func48, Try.ntmps48
    have hW : Below w.heap.size w (w.alloc (.cells #[.int .i64 12, .int .i64 op, .string text, .int .i64 flag, .int .i64 size] 28)).drew := by go_grown
    go_wp2_with (first | (go_at_call 50; refine (count_any c _ _ _ _ _ _ (by omega) (by omega)).mono ?_; rintro e wc ⟨rfl, rfl⟩))
    go_region_held3 (fun w' => w'.cell? ⟨g, o, none⟩ = some (.int .i64 (a : Int)) ∧ w'.cell? ⟨w.heap.size, 3, none⟩ = some (.int .i64 flag)) (first | with_reducible exact ⟨m0, m1⟩ | with_reducible exact ⟨cell_past _ m0, cell_past _ m1⟩ | with_reducible exact ⟨s0, s1⟩ | with_reducible exact ⟨cell_drew (cell_past _ hc), cell_drew (box3 w _ _ _ _ _ _)⟩) (first | (go_at_call 31; refine (HC.out _ (by go_grown)).mono ?_; rintro e w3 ⟨P2, T, x, rfl, -, -, hP, h1, h2⟩; have s0 := h2.grown.cell (show World.cell? _ ⟨g, o, none⟩ = some (.int .i64 (a : Int)) from cell_drew (cell_past _ hc)) hG; have s1 := h2.grown.cell (show World.cell? _ ⟨w.heap.size, 3, none⟩ = some (.int .i64 flag) from cell_drew (box3 w _ _ _ _ _ _)) hN; have HI3 := Lib.hid ((HI.out.below hW).grown h2.grown); have HT := Lib.hid (And.intro h1 hP); clear h1 h2 hP) | (go_at_call 62; refine (HD.out _ _ _ HT.out.1.bld (by first | exact HI3.out.tail | exact IntsIn.none _ _ (by simp))).mono ?_; rintro e w4 ⟨v, ou, T5, y5, nm5, P3, rfl, ⟨ao5, n5, cap5, rfl⟩, h1⟩; have m0 := h1.grown.cell s0 hG; have m1 := h1.grown.cell s1 hN; have HU := Lib.hid (And.intro (HT.out.1.seq h1 (by omega) a5 HB.out) (h1.out a (.inl (by omega)))); clear h1))
    go_wp2
    go_ret
    have hs3 := HU.out.1.grown.size
    have hst := (HU.out.1.cong H1.out rfl)
    refine ⟨_, P3, rfl, hst.below (by go_grown), Got.mk hst rfl (by simpa using hs3) ⟨_, _, block_new _ _, rfl⟩ (hst.apart (Nat.le_refl _)) (Dir.other (by rw [hxe]; rfl) (by rw [hxe]; rfl))⟩
end Go.Proofs.Ytkpfbgeaodopoaa.fnDirect
