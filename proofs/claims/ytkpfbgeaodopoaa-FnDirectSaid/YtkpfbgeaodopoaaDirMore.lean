/-
  FnDirect: the builder's both: functions, locals.
-/
import Derived.Test.YtkpfbgeaodopoaaDirList
namespace Go.Proofs.Ytkpfbgeaodopoaa.fnDirect
open Go.RowKit
set_option linter.unusedSimpArgs false
set_option linter.unusedVariables false

set_option maxRecDepth 100000 in
set_option maxHeartbeats 1600000 in
theorem both_function (c : Ctx) (N i : Nat) (ih : NodeTo c N) (hf : Fit c.E c.n) (hn : c.n ≤ 400) (lv : Value) (w : World) (P : Nat → Value) (hi : i < c.n) (hs : sz c.E i ≤ N + 1) (hb : Bld c w P) (hI : IntsIn c w lv (kids c.E i)) (l : List Nat) (q : Nat) (hk : (c.E i).kind = 19) (hl : kids c.E i = l ++ [q]) (hp : ∀ k ∈ l, Par c.E k) (hq : ex (c.E q)) :
    Calls Try.prog 46 #[.pointer (some ⟨c.bb, 0, none⟩), (c.E i).v, lv] w fun e w' => ∃ v P', e = .returned v ∧ St c w P (i + 1) (i + sz c.E i) w' P' ∧ Got c w (i + 1) (i + sz c.E i) i w' P' v := by
  have hfi := hf.2.2 i hi
  have hkl := hfi.kin.len
  obtain ⟨ao, cap, rfl⟩ := hI.form
  have hlen : (kids c.E i).length = l.length + 1 := by rw [hl]; simp
  have HB := Lib.hid hb
  have hcn := hfi.2.1
  have HC := Lib.hid (fun (w1 : World) (h1 : Below w.heap.size w w1) => function_any c N ih hf hn l q (i + 1) (i + sz c.E i) (.slice ao (l.length + 1) cap) w1 P (by rw [← hl]; exact hfi.kin) hcn hp hq (fun k h1 h2 => by omega) (hb.below h1) (by rw [← hl, ← hlen]; exact hI.below h1))
  have c0 := hb.c0
  have c0' := fun o => cell_past o c0
  rw [hlen] at hkl ⊢
  clear hb ih hI hp hlen hl hfi hf
  generalize hxe : c.E i = x at *
  obtain ⟨kind, op, text, flag, size⟩ := x
  simp only [Nd.v] at *
  subst hk
  go_enter Try.func46, Try.ntmps46
  go_wp2_with (first | (go_at_call 50; refine (count_any c _ _ _ _ _ _ (by omega) (by omega)).mono ?_; rintro e wc ⟨rfl, rfl⟩) | (go_at_call 53; refine (HC.out _ (by go_grown)).mono ?_; rintro e w3 ⟨x, P2, T, y, rfl, hx1, hx2, h1, hap, -⟩; have HT := Lib.hid (And.intro h1 hap); clear h1 hap))
  go_ret
  have hst := HT.out.1.from_below (w := w) (by go_grown)
  exact ⟨_, P2, rfl, hst, Got.mk hst rfl (by simp at hx1; omega) hx2 HT.out.2 (Dir.other (by rw [hxe]; rfl) (by rw [hxe]; rfl))⟩

set_option maxRecDepth 100000 in
set_option maxHeartbeats 1600000 in
theorem both_local (c : Ctx) (N i : Nat) (ih : NodeTo c N) (hf : Fit c.E c.n) (hn : c.n ≤ 400) (lv : Value) (w : World) (P : Nat → Value) (hi : i < c.n) (hs : sz c.E i ≤ N + 1) (hb : Bld c w P) (hI : IntsIn c w lv (kids c.E i)) (l : List Nat) (q : Nat) (hk : (c.E i).kind = 20) (hl : kids c.E i = l ++ [q]) (hp : ∀ k ∈ l, Bound c N k) (hq : ex (c.E q)) (h2 : 1 ≤ l.length) :
    Calls Try.prog 46 #[.pointer (some ⟨c.bb, 0, none⟩), (c.E i).v, lv] w fun e w' => ∃ v P', e = .returned v ∧ St c w P (i + 1) (i + sz c.E i) w' P' ∧ Got c w (i + 1) (i + sz c.E i) i w' P' v := by
  have hfi := hf.2.2 i hi
  have hkl := hfi.kin.len
  have hcn := hfi.2.1
  obtain ⟨mid, hK1, hK2⟩ := (show Kin (sz c.E) (i + 1) (i + sz c.E i) (l ++ [q]) by rw [← hl]; exact hfi.kin).split
  obtain ⟨rfl, k2, k3, h4⟩ := hK2.cons_inv
  have hend := h4.nil_inv
  have hmq := hK1.le
  obtain ⟨ao, cap, rfl⟩ := hI.form
  have hlen : (kids c.E i).length = l.length + 1 := by rw [hl]; simp
  rw [hlen] at hkl hI ⊢
  have hcap := hI.cap.1
  rw [hlen] at hcap
  rw [hl] at hI
  obtain ⟨g, o, rfl, hg, hc⟩ := hI.get (i := l.length) (k := q) (by simp)
  have HB := Lib.hid hb
  have HC := Lib.hid (fun (w1 : World) (h1 : Below w.heap.size w w1) => (binds_any c N ih hn l (i + 1) q (.slice (some ⟨g, o, none⟩) l.length cap) w1 P hK1 (by omega) hf hp (hb.below h1) (hI.left.below h1)))
  have HD := Lib.hid (fun (w1 : World) (P1 : Nat → Value) (h1 : St c w P (i + 1) q w1 P1) => h1.node ih hb hmq (by omega) hq (by omega) k2)
  have hG : some g ≠ some c.pb := by simpa using hg
  have c0 := hb.c0
  have c0' := fun o => cell_past o c0
  have H5 := Lib.hid hend
  have hw0 : IntKind.i64.wrap (l.length : Int) = l.length := IntWalk.i64_in _ (by omega)
  have hw1 : IntKind.i64.wrap ((l.length : Int) + 1 - 1) = l.length := (IntWalk.i64_in _ (by omega)).trans (by omega)
  have hw2 : (0 : Int) ≤ (l.length : Int) := by omega
  have hw3 : (l.length : Int) ≤ (cap : Int) := by omega
  have hw4 : (l.length : Int) < (l.length : Int) + 1 := by omega
  have hw5 : l.length ≤ cap := by omega
  clear hb ih hI hp hlen hl hfi hf hK1 hK2 h4 hend
  generalize hxe : c.E i = x at *
  obtain ⟨kind, op, text, flag, size⟩ := x
  simp only [Nd.v] at *
  subst hk
  go_enter Try.func46, Try.ntmps46
  go_wp2_with (first | (go_at_call 50; refine (count_any c _ _ _ _ _ _ (by omega) (by omega)).mono ?_; rintro e wc ⟨rfl, rfl⟩))
  go_region_held3 (fun w' => w'.cell? ⟨g, o + l.length, none⟩ = some (.int .i64 (q : Int))) (first | with_reducible exact m0 | with_reducible exact cell_past _ m0 | with_reducible exact s0 | with_reducible exact cell_drew (cell_past _ hc)) (first | (go_at_call 54; refine (HC.out _ (by go_grown)).mono ?_; rintro e w3 ⟨ao3, n3, cap3, P2, rfl, h1⟩; have s0 := h1.grown.cell (show World.cell? _ ⟨g, o + l.length, none⟩ = some (.int .i64 (q : Int)) by with_reducible exact cell_drew (cell_past _ hc)) hG; have HT := Lib.hid (h1.from_below (w := w) (by go_grown)); clear h1) | (go_at_call 31; refine (HD.out _ _ HT.out).mono ?_; rintro e w4 ⟨P3, T2, x2, rfl, -, -, hP, h1, h2⟩; have m0 := h2.grown.cell s0 hG; have HU := Lib.hid h1; clear h1 h2 hP))
  go_wp2
  go_ret
  have hst := HU.out.cong rfl H5.out
  have hs3 := hst.grown.size
  refine ⟨_, P3, rfl, hst.below (by go_grown), Got.mk hst rfl (by simpa using hs3) ⟨_, _, block_new _ _, rfl⟩ (hst.apart (Nat.le_refl _)) (Dir.other (by rw [hxe]; rfl) (by rw [hxe]; rfl))⟩
end Go.Proofs.Ytkpfbgeaodopoaa.fnDirect
