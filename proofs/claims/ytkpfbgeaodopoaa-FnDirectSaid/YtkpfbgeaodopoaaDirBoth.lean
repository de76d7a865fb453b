/-
  FnDirect: the builder's both: nodes of one kid, of two.
-/
import Derived.Test.YtkpfbgeaodopoaaDirMany
namespace Go.Proofs.Ytkpfbgeaodopoaa.fnDirect
open Go.RowKit
set_option linter.unusedSimpArgs false
set_option linter.unusedVariables false

theorem leaf_of_dir {k : Int} {z : TypeId × TypeId × List (Nat × Nat)} (h : dirT k = some z) : leafT k = none := by
  unfold dirT at h
  split at h
  · rename_i e; subst e; rfl
  split at h
  · rename_i e; subst e; rfl
  split at h
  · rename_i e; subst e; rfl
  split at h
  · rename_i e; subst e; rfl
  split at h
  · rename_i e; subst e; rfl
  cases h

theorem Dir.mk1 {c : Ctx} {w : World} {P : Nat → Value} {k i x a f : Nat} {l : List Nat} {T S : TypeId} {C : Array Value} (hd : dirT (c.E i).kind = some (T, S, [(f, 0)])) (h15 : (c.E i).kind ≠ 15) (hl : kids c.E i = a :: l) (hia : i < a) (hak : a < k) (hx : w.heap[x]? = some (.cells C S (0, 0))) (hC : C[f]? = some (P a)) : Dir c w P k i T x := by
  refine ⟨fun T0 S0 F h => ?_, fun T0 h => by rw [leaf_of_dir hd] at h; cases h⟩
  rw [hd] at h
  simp only [Option.some.injEq, Prod.mk.injEq] at h
  obtain ⟨rfl, rfl, rfl⟩ := h
  refine ⟨rfl, C, hx, fun f' j hfj => ?_, fun h => absurd h h15⟩
  simp only [List.mem_singleton, Prod.mk.injEq] at hfj
  obtain ⟨rfl, rfl⟩ := hfj
  exact ⟨a, by rw [hl]; rfl, hia, hak, hC⟩

theorem Dir.mk2 {c : Ctx} {w : World} {P : Nat → Value} {k i x a b f g : Nat} {T S : TypeId} {C : Array Value} (hd : dirT (c.E i).kind = some (T, S, [(f, 0), (g, 1)])) (h15 : (c.E i).kind = 15 → C[4]? = some (.pointer none)) (hl : kids c.E i = [a, b]) (hia : i < a) (hak : a < k) (hib : i < b) (hbk : b < k) (hx : w.heap[x]? = some (.cells C S (0, 0))) (hC : C[f]? = some (P a)) (hD : C[g]? = some (P b)) : Dir c w P k i T x := by
  refine ⟨fun T0 S0 F h => ?_, fun T0 h => by rw [leaf_of_dir hd] at h; cases h⟩
  rw [hd] at h
  simp only [Option.some.injEq, Prod.mk.injEq] at h
  obtain ⟨rfl, rfl, rfl⟩ := h
  refine ⟨rfl, C, hx, fun f' j hfj => ?_, h15⟩
  simp only [List.mem_cons, List.not_mem_nil, or_false, Prod.mk.injEq] at hfj
  rcases hfj with ⟨rfl, rfl⟩ | ⟨rfl, rfl⟩
  · exact ⟨a, by rw [hl]; rfl, hia, hak, hC⟩
  · exact ⟨b, by rw [hl]; rfl, hib, hbk, hD⟩

/-- One kid, two kids: where they lie. -/
theorem Fit.kid1 {E : Nat → Nd} {n i a : Nat} (hf : Fit E n) (hi : i < n) (hl : kids E i = [a]) : a = i + 1 ∧ 1 ≤ sz E a ∧ a + sz E a = i + sz E i ∧ a < n ∧ sz E a < sz E i := by
  have h := (hf.2.2 i hi).kin
  have h2 := (hf.2.2 i hi).2.1
  rw [hl] at h
  obtain ⟨rfl, h3, h4, h5⟩ := h.cons_inv
  have := h5.nil_inv
  exact ⟨rfl, h3, this, by omega, by omega⟩

theorem Fit.kid2 {E : Nat → Nd} {n i a b : Nat} (hf : Fit E n) (hi : i < n) (hl : kids E i = [a, b]) : a = i + 1 ∧ 1 ≤ sz E a ∧ b = a + sz E a ∧ 1 ≤ sz E b ∧ b + sz E b = i + sz E i ∧ b < n ∧ sz E a < sz E i ∧ sz E b < sz E i := by
  have h := (hf.2.2 i hi).kin
  have h2 := (hf.2.2 i hi).2.1
  rw [hl] at h
  obtain ⟨rfl, h3, h4, h5⟩ := h.cons_inv
  obtain ⟨rfl, h6, h7, h8⟩ := h5.cons_inv
  have := h8.nil_inv
  exact ⟨rfl, h3, rfl, h6, this, by omega, by omega, by omega⟩

theorem Fit.kid3 {E : Nat → Nd} {n i a b d : Nat} (hf : Fit E n) (hi : i < n) (hl : kids E i = [a, b, d]) : a = i + 1 ∧ 1 ≤ sz E a ∧ b = a + sz E a ∧ 1 ≤ sz E b ∧ d = b + sz E b ∧ 1 ≤ sz E d ∧ d + sz E d = i + sz E i ∧ d < n ∧ sz E a < sz E i ∧ sz E b < sz E i ∧ sz E d < sz E i := by
  have h := (hf.2.2 i hi).kin
  have h2 := (hf.2.2 i hi).2.1
  rw [hl] at h
  obtain ⟨rfl, h3, h4, h5⟩ := h.cons_inv
  obtain ⟨rfl, h6, h7, h8⟩ := h5.cons_inv
  obtain ⟨rfl, h9, h10, h11⟩ := h8.cons_inv
  have := h11.nil_inv
  exact ⟨rfl, h3, rfl, h6, rfl, h9, this, by omega, by omega, by omega, by omega⟩

theorem St.cong {c : Ctx} {w w' : World} {P P' : Nat → Value} {lo lo' k k' : Nat} (h : St c w P lo k w' P') (h1 : lo = lo') (h2 : k = k') : St c w P lo' k' w' P' := by subst h1 h2; exact h
theorem Got.cong {c : Ctx} {w w' : World} {P' : Nat → Value} {lo lo' k k' i : Nat} {v : Value} (h : Got c w lo k i w' P' v) (h1 : lo = lo') (h2 : k = k') : Got c w lo' k' i w' P' v := by subst h1 h2; exact h

set_option maxRecDepth 100000 in
set_option maxHeartbeats 1600000 in
theorem both_super (c : Ctx) (N i : Nat) (ih : NodeTo c N) (hf : Fit c.E c.n) (hn : c.n ≤ 400) (lv : Value) (w : World) (P : Nat → Value) (hi : i < c.n) (hs : sz c.E i ≤ N + 1) (hb : Bld c w P) (hI : IntsIn c w lv (kids c.E i)) (a : Nat) (hk : (c.E i).kind = 9) (hl : kids c.E i = [a]) (hxa : ex (c.E a)) (hfl : (c.E i).flag = 0) :
    Calls Try.prog 46 #[.pointer (some ⟨c.bb, 0, none⟩), (c.E i).v, lv] w fun e w' => ∃ v P', e = .returned v ∧ St c w P (i + 1) (i + sz c.E i) w' P' ∧ Got c w (i + 1) (i + sz c.E i) i w' P' v := by
  obtain ⟨a1, a2, a3, a4, a5⟩ := hf.kid1 hi hl
  obtain ⟨ao, cap, rfl⟩ := hI.form
  obtain ⟨g, o, rfl, hg, hc⟩ := hI.get (i := 0) (k := a) (by rw [hl]; rfl)
  rw [Nat.add_zero] at hc
  have hlen : (kids c.E i).length = 1 := by rw [hl]; rfl
  rw [hlen]
  have HB := Lib.hid hb
  have HC := Lib.hid (fun (w1 : World) (h1 : Below w.heap.size w w1) => ((St.refl hb a).below h1).node ih hb (Nat.le_refl _) a4 hxa (by omega) a2)
  have hc' := fun o => cell_past o hc
  have H1 := Lib.hid a1
  have H3 := Lib.hid a3
  have HL := Lib.hid hl
  have HK := Lib.hid hk
  have b1 : i < a := by omega
  clear hb ih hI hl a1 a3
  generalize hxe : c.E i = x at *
  obtain ⟨kind, op, text, flag, size⟩ := x
  simp only [Nd.v] at *
  subst hk
  go_enter Try.func46, Try.ntmps46
  go_wp2_with (first | (go_at_call 50; refine (count_any c _ _ _ _ _ _ (by omega) (by omega)).mono ?_; rintro e wc ⟨rfl, rfl⟩) | (go_at_call 31; refine (HC.out _ (by go_grown)).mono ?_; rintro e w3 ⟨P2, T, x, rfl, -, -, hP, h1, -⟩; have HT := Lib.hid (And.intro h1 hP); clear h1 hP))
  go_ret
  have hs3 := HT.out.1.grown.size
  have hst := (HT.out.1.cong H1.out H3.out)
  refine ⟨_, P2, rfl, hst.below (by go_grown), Got.mk hst rfl (by simpa using hs3) ⟨_, _, block_new _ _, rfl⟩ (hst.apart (Nat.le_refl _)) (Dir.other (by rw [hxe]; rfl) (by rw [hxe]; rfl))⟩

set_option maxRecDepth 100000 in
set_option maxHeartbeats 1600000 in
theorem both_insuper (c : Ctx) (N i : Nat) (ih : NodeTo c N) (hf : Fit c.E c.n) (hn : c.n ≤ 400) (lv : Value) (w : World) (P : Nat → Value) (hi : i < c.n) (hs : sz c.E i ≤ N + 1) (hb : Bld c w P) (hI : IntsIn c w lv (kids c.E i)) (a : Nat) (hk : (c.E i).kind = 10) (hl : kids c.E i = [a]) (hxa : ex (c.E a))  :
    Calls Try.prog 46 #[.pointer (some ⟨c.bb, 0, none⟩), (c.E i).v, lv] w fun e w' => ∃ v P', e = .returned v ∧ St c w P (i + 1) (i + sz c.E i) w' P' ∧ Got c w (i + 1) (i + sz c.E i) i w' P' v := by
  obtain ⟨a1, a2, a3, a4, a5⟩ := hf.kid1 hi hl
  obtain ⟨ao, cap, rfl⟩ := hI.form
  obtain ⟨g, o, rfl, hg, hc⟩ := hI.get (i := 0) (k := a) (by rw [hl]; rfl)
  rw [Nat.add_zero] at hc
  have hlen : (kids c.E i).length = 1 := by rw [hl]; rfl
  rw [hlen]
  have HB := Lib.hid hb
  have HC := Lib.hid (fun (w1 : World) (h1 : Below w.heap.size w w1) => ((St.refl hb a).below h1).node ih hb (Nat.le_refl _) a4 hxa (by omega) a2)
  have hc' := fun o => cell_past o hc
  have H1 := Lib.hid a1
  have H3 := Lib.hid a3
  have HL := Lib.hid hl
  have HK := Lib.hid hk
  have b1 : i < a := by omega
  clear hb ih hI hl a1 a3
  generalize hxe : c.E i = x at *
  obtain ⟨kind, op, text, flag, size⟩ := x
  simp only [Nd.v] at *
  subst hk
  go_enter Try.func46, Try.ntmps46
  go_wp2_with (first | (go_at_call 50; refine (count_any c _ _ _ _ _ _ (by omega) (by omega)).mono ?_; rintro e wc ⟨rfl, rfl⟩) | (go_at_call 31; refine (HC.out _ (by go_grown)).mono ?_; rintro e w3 ⟨P2, T, x, rfl, -, -, hP, h1, -⟩; have HT := Lib.hid (And.intro h1 hP); clear h1 hP))
  go_ret
  have hs3 := HT.out.1.grown.size
  have hst := (HT.out.1.cong H1.out H3.out)
  refine ⟨_, P2, rfl, hst.below (by go_grown), Got.mk hst rfl (by simpa using hs3) ⟨_, _, block_new _ _, rfl⟩ (hst.apart (Nat.le_refl _)) (Dir.other (by rw [hxe]; rfl) (by rw [hxe]; rfl))⟩

set_option maxRecDepth 100000 in
set_option maxHeartbeats 1600000 in
theorem both_error (c : Ctx) (N i : Nat) (ih : NodeTo c N) (hf : Fit c.E c.n) (hn : c.n ≤ 400) (lv : Value) (w : World) (P : Nat → Value) (hi : i < c.n) (hs : sz c.E i ≤ N + 1) (hb : Bld c w P) (hI : IntsIn c w lv (kids c.E i)) (a : Nat) (hk : (c.E i).kind = 24) (hl : kids c.E i = [a]) (hxa : ex (c.E a))  :
    Calls Try.prog 46 #[.pointer (some ⟨c.bb, 0, none⟩), (c.E i).v, lv] w fun e w' => ∃ v P', e = .returned v ∧ St c w P (i + 1) (i + sz c.E i) w' P' ∧ Got c w (i + 1) (i + sz c.E i) i w' P' v := by
  obtain ⟨a1, a2, a3, a4, a5⟩ := hf.kid1 hi hl
  obtain ⟨ao, cap, rfl⟩ := hI.form
  obtain ⟨g, o, rfl, hg, hc⟩ := hI.get (i := 0) (k := a) (by rw [hl]; rfl)
  rw [Nat.add_zero] at hc
  have hlen : (kids c.E i).length = 1 := by rw [hl]; rfl
  rw [hlen]
  have HB := Lib.hid hb
  have HC := Lib.hid (fun (w1 : World) (h1 : Below w.heap.size w w1) => ((St.refl hb a).below h1).node ih hb (Nat.le_refl _) a4 hxa (by omega) a2)
  have hc' := fun o => cell_past o hc
  have H1 := Lib.hid a1
  have H3 := Lib.hid a3
  have HL := Lib.hid hl
  have HK := Lib.hid hk
  have b1 : i < a := by omega
  clear hb ih hI hl a1 a3
  generalize hxe : c.E i = x at *
  obtain ⟨kind, op, text, flag, size⟩ := x
  simp only [Nd.v] at *
  subst hk
  go_enter Try.func46, Try.ntmps46
  go_wp2_with (first | (go_at_call 50; refine (count_any c _ _ _ _ _ _ (by omega) (by omega)).mono ?_; rintro e wc ⟨rfl, rfl⟩) | (go_at_call 31; refine (HC.out _ (by go_grown)).mono ?_; rintro e w3 ⟨P2, T, x, rfl, -, -, hP, h1, -⟩; have HT := Lib.hid (And.intro h1 hP); clear h1 hP))
  go_ret
  have hs3 := HT.out.1.grown.size
  have hst := (HT.out.1.cong H1.out H3.out)
  refine ⟨_, P2, rfl, hst.below (by go_grown), Got.mk hst rfl (by simpa using hs3) ⟨_, _, block_new _ _, rfl⟩ (hst.apart (Nat.le_refl _)) (Dir.mk1 (f := 0) (by rw [hxe]; rfl) (by rw [hxe]; simp) HL.out b1 (by have := H3.out; omega) (block_new _ _) (by rw [HT.out.2]; rfl))⟩

set_option maxRecDepth 100000 in
set_option maxHeartbeats 1600000 in
theorem both_unary (c : Ctx) (N i : Nat) (ih : NodeTo c N) (hf : Fit c.E c.n) (hn : c.n ≤ 400) (lv : Value) (w : World) (P : Nat → Value) (hi : i < c.n) (hs : sz c.E i ≤ N + 1) (hb : Bld c w P) (hI : IntsIn c w lv (kids c.E i)) (a : Nat) (hk : (c.E i).kind = 22) (hl : kids c.E i = [a]) (hxa : ex (c.E a)) (ho : (c.E i).op ∈ [(1 : Int), 2, 3, 4]) :
    Calls Try.prog 46 #[.pointer (some ⟨c.bb, 0, none⟩), (c.E i).v, lv] w fun e w' => ∃ v P', e = .returned v ∧ St c w P (i + 1) (i + sz c.E i) w' P' ∧ Got c w (i + 1) (i + sz c.E i) i w' P' v := by
  obtain ⟨a1, a2, a3, a4, a5⟩ := hf.kid1 hi hl
  obtain ⟨ao, cap, rfl⟩ := hI.form
  obtain ⟨g, o, rfl, hg, hc⟩ := hI.get (i := 0) (k := a) (by rw [hl]; rfl)
  rw [Nat.add_zero] at hc
  have hlen : (kids c.E i).length = 1 := by rw [hl]; rfl
  rw [hlen]
  have HB := Lib.hid hb
  have HC := Lib.hid (fun (w1 : World) (h1 : Below w.heap.size w w1) => ((St.refl hb a).below h1).node ih hb (Nat.le_refl _) a4 hxa (by omega) a2)
  have hc' := fun o => cell_past o hc
  have H1 := Lib.hid a1
  have H3 := Lib.hid a3
  have HL := Lib.hid hl
  have HK := Lib.hid hk
  have b1 : i < a := by omega
  clear hb ih hI hl a1 a3
  generalize hxe : c.E i = x at *
  obtain ⟨kind, op, text, flag, size⟩ := x
  simp only [Nd.v] at *
  subst hk
  go_enter Try.func46, Try.ntmps46
  go_wp2_with (first | (go_at_call 50; refine (count_any c _ _ _ _ _ _ (by omega) (by omega)).mono ?_; rintro e wc ⟨rfl, rfl⟩) | (go_at_call 56; refine (unaryOp_any _ _ ho).mono ?_; rintro e wc ⟨q, rfl, rfl⟩) | (go_at_call 31; refine (HC.out _ (by go_grown)).mono ?_; rintro e w3 ⟨P2, T, x, rfl, -, -, hP, h1, -⟩; have HT := Lib.hid (And.intro h1 hP); clear h1 hP))
  go_ret
  have hs3 := HT.out.1.grown.size
  have hst := (HT.out.1.cong H1.out H3.out)
  refine ⟨_, P2, rfl, hst.below (by go_grown), Got.mk hst rfl (by simpa using hs3) ⟨_, _, block_new _ _, rfl⟩ (hst.apart (Nat.le_refl _)) (Dir.mk1 (f := 0) (by rw [hxe]; rfl) (by rw [hxe]; simp) HL.out b1 (by have := H3.out; omega) (block_new _ _) (by rw [HT.out.2]; rfl))⟩

set_option maxRecDepth 100000 in
set_option maxHeartbeats 1600000 in
theorem both_index (c : Ctx) (N i : Nat) (ih : NodeTo c N) (hf : Fit c.E c.n) (hn : c.n ≤ 400) (lv : Value) (w : World) (P : Nat → Value) (hi : i < c.n) (hs : sz c.E i ≤ N + 1) (hb : Bld c w P) (hI : IntsIn c w lv (kids c.E i)) (a b : Nat) (hk : (c.E i).kind = 15) (hl : kids c.E i = [a, b]) (hxa : ex (c.E a)) (hxb : ex (c.E b))  :
    Calls Try.prog 46 #[.pointer (some ⟨c.bb, 0, none⟩), (c.E i).v, lv] w fun e w' => ∃ v P', e = .returned v ∧ St c w P (i + 1) (i + sz c.E i) w' P' ∧ Got c w (i + 1) (i + sz c.E i) i w' P' v := by
  obtain ⟨a1, a2, a3, a4, a5, a6, a7, a8⟩ := hf.kid2 hi hl
  obtain ⟨ao, cap, rfl⟩ := hI.form
  obtain ⟨g, o, rfl, hg, hc⟩ := hI.get (i := 0) (k := a) (by rw [hl]; rfl)
  obtain ⟨g', o', he, -, hd⟩ := hI.get (i := 1) (k := b) (by rw [hl]; rfl)
  obtain ⟨rfl, rfl⟩ : g = g' ∧ o = o' := by simpa using he
  rw [Nat.add_zero] at hc
  have hlen : (kids c.E i).length = 2 := by rw [hl]; rfl
  rw [hlen]
  have HB := Lib.hid hb
  have HC := Lib.hid (fun (w1 : World) (h1 : Below w.heap.size w w1) => ((St.refl hb a).below h1).node ih hb (Nat.le_refl _) (by omega) hxa (by omega) a2)
  have HD := Lib.hid (fun (w1 : World) (P1 : Nat → Value) (h1 : St c w P a (a + sz c.E a) w1 P1) => (h1.cong rfl a3.symm).node ih hb (by omega) (by omega) hxb (by omega) a4)
  have hG : some g ≠ some c.pb := by simpa using hg
  have hc' := fun o => cell_past o hc
  have hd' := fun o => cell_past o hd
  have H1 := Lib.hid a1
  have H3 := Lib.hid a3
  have H5 := Lib.hid a5
  have HL := Lib.hid hl
  have HK := Lib.hid hk
  have b1 : i < a := by omega
  have b2 : a < b := by omega
  clear hb ih hI hl a1 a3 a5 he
  generalize hxe : c.E i = x at *
  obtain ⟨kind, op, text, flag, size⟩ := x
  simp only [Nd.v] at *
  subst hk
  go_enter Try.func46, Try.ntmps46
  go_wp2_with (first | (go_at_call 50; refine (count_any c _ _ _ _ _ _ (by omega) (by omega)).mono ?_; rintro e wc ⟨rfl, rfl⟩) )
  go_region_held3 (fun w' => w'.cell? ⟨g, o, none⟩ = some (.int .i64 (a : Int)) ∧ w'.cell? ⟨g, o + 1, none⟩ = some (.int .i64 (b : Int))) (first | with_reducible exact ⟨m0, m1⟩ | with_reducible exact ⟨cell_past _ m0, cell_past _ m1⟩ | with_reducible exact ⟨s0, s1⟩ | with_reducible exact ⟨cell_drew (cell_past _ hc), cell_drew (cell_past _ hd)⟩ | with_reducible exact ⟨cell_drew j0, cell_drew j1⟩) (first | (go_at_call_of 31 (Value.int .i64 (a : Int)); refine (HC.out _ (by first | exact hJ.drew | go_grown)).mono ?_; rintro e w3 ⟨P2, T, x, rfl, -, -, hP, h1, h2⟩; have s0 := h2.grown.cell (show World.cell? _ ⟨g, o, none⟩ = some (.int .i64 (a : Int)) by first | with_reducible exact cell_drew (cell_past _ hc) | with_reducible exact cell_drew j0) hG; have s1 := h2.grown.cell (show World.cell? _ ⟨g, o + 1, none⟩ = some (.int .i64 (b : Int)) by first | with_reducible exact cell_drew (cell_past _ hd) | with_reducible exact cell_drew j1) hG; have HT := Lib.hid (And.intro h1 hP); clear h1 h2 hP) | (go_at_call_of 31 (Value.int .i64 (b : Int)); refine (HD.out _ _ HT.out.1).mono ?_; rintro e w4 ⟨P3, T2, x2, rfl, -, -, hP, h1, h2⟩; have m0 := h2.grown.cell s0 hG; have m1 := h2.grown.cell s1 hG; have HU := Lib.hid (And.intro h1 (And.intro (h2.out a (.inl b2)) hP)); clear h1 h2 hP))
  go_wp2
  go_ret
  have hs3 := HU.out.1.grown.size
  have hst := (HU.out.1.cong H1.out H5.out)
  refine ⟨_, P3, rfl, hst.below (by go_grown), Got.mk hst rfl (by simpa using hs3) ⟨_, _, block_new _ _, rfl⟩ (hst.apart (Nat.le_refl _)) (Dir.mk2 (f := 0) (g := 1) (by rw [hxe]; rfl) (fun _ => rfl) HL.out b1 (by have := H5.out; omega) (by omega) (by have := H5.out; omega) (block_new _ _) (by rw [HU.out.2.1, HT.out.2]; rfl) (by rw [HU.out.2.2]; rfl))⟩

set_option maxRecDepth 100000 in
set_option maxHeartbeats 1600000 in
theorem both_binary (c : Ctx) (N i : Nat) (ih : NodeTo c N) (hf : Fit c.E c.n) (hn : c.n ≤ 400) (lv : Value) (w : World) (P : Nat → Value) (hi : i < c.n) (hs : sz c.E i ≤ N + 1) (hb : Bld c w P) (hI : IntsIn c w lv (kids c.E i)) (a b : Nat) (hk : (c.E i).kind = 23) (hl : kids c.E i = [a, b]) (hxa : ex (c.E a)) (hxb : ex (c.E b)) (ho1 : 1 ≤ (c.E i).op) (ho2 : (c.E i).op ≤ 19) :
    Calls Try.prog 46 #[.pointer (some ⟨c.bb, 0, none⟩), (c.E i).v, lv] w fun e w' => ∃ v P', e = .returned v ∧ St c w P (i + 1) (i + sz c.E i) w' P' ∧ Got c w (i + 1) (i + sz c.E i) i w' P' v := by
  obtain ⟨a1, a2, a3, a4, a5, a6, a7, a8⟩ := hf.kid2 hi hl
  obtain ⟨ao, cap, rfl⟩ := hI.form
  obtain ⟨g, o, rfl, hg, hc⟩ := hI.get (i := 0) (k := a) (by rw [hl]; rfl)
  obtain ⟨g', o', he, -, hd⟩ := hI.get (i := 1) (k := b) (by rw [hl]; rfl)
  obtain ⟨rfl, rfl⟩ : g = g' ∧ o = o' := by simpa using he
  rw [Nat.add_zero] at hc
  have hlen : (kids c.E i).length = 2 := by rw [hl]; rfl
  rw [hlen]
  have HB := Lib.hid hb
  have HC := Lib.hid (fun (w1 : World) (h1 : Below w.heap.size w w1) => ((St.refl hb a).below h1).node ih hb (Nat.le_refl _) (by omega) hxa (by omega) a2)
  have HD := Lib.hid (fun (w1 : World) (P1 : Nat → Value) (h1 : St c w P a (a + sz c.E a) w1 P1) => (h1.cong rfl a3.symm).node ih hb (by omega) (by omega) hxb (by omega) a4)
  have hG : some g ≠ some c.pb := by simpa using hg
  have hc' := fun o => cell_past o hc
  have hd' := fun o => cell_past o hd
  have H1 := Lib.hid a1
  have H3 := Lib.hid a3
  have H5 := Lib.hid a5
  have HL := Lib.hid hl
  have HK := Lib.hid hk
  have b1 : i < a := by omega
  have b2 : a < b := by omega
  clear hb ih hI hl a1 a3 a5 he
  generalize hxe : c.E i = x at *
  obtain ⟨kind, op, text, flag, size⟩ := x
  simp only [Nd.v] at *
  subst hk
  go_enter Try.func46, Try.ntmps46
  go_wp2_with (first | (go_at_call 50; refine (count_any c _ _ _ _ _ _ (by omega) (by omega)).mono ?_; rintro e wc ⟨rfl, rfl⟩) | (go_at_call 57; refine (binaryOp_any _ _ ho1 ho2).mono ?_; rintro e w5 ⟨q, rfl, hb5⟩; have hJ : Below w.heap.size w w5 := below_step (Nat.le_refl _) (by go_grown) hb5; have j0 := cell_later hJ hc; have j1 := cell_later hJ hd; clear hb5))
  go_region_held3 (fun w' => w'.cell? ⟨g, o, none⟩ = some (.int .i64 (a : Int)) ∧ w'.cell? ⟨g, o + 1, none⟩ = some (.int .i64 (b : Int))) (first | with_reducible exact ⟨m0, m1⟩ | with_reducible exact ⟨cell_past _ m0, cell_past _ m1⟩ | with_reducible exact ⟨s0, s1⟩ | with_reducible exact ⟨cell_drew (cell_past _ hc), cell_drew (cell_past _ hd)⟩ | with_reducible exact ⟨cell_drew j0, cell_drew j1⟩) (first | (go_at_call_of 31 (Value.int .i64 (a : Int)); refine (HC.out _ (by first | exact hJ.drew | go_grown)).mono ?_; rintro e w3 ⟨P2, T, x, rfl, -, -, hP, h1, h2⟩; have s0 := h2.grown.cell (show World.cell? _ ⟨g, o, none⟩ = some (.int .i64 (a : Int)) by first | with_reducible exact cell_drew (cell_past _ hc) | with_reducible exact cell_drew j0) hG; have s1 := h2.grown.cell (show World.cell? _ ⟨g, o + 1, none⟩ = some (.int .i64 (b : Int)) by first | with_reducible exact cell_drew (cell_past _ hd) | with_reducible exact cell_drew j1) hG; have HT := Lib.hid (And.intro h1 hP); clear h1 h2 hP) | (go_at_call_of 31 (Value.int .i64 (b : Int)); refine (HD.out _ _ HT.out.1).mono ?_; rintro e w4 ⟨P3, T2, x2, rfl, -, -, hP, h1, h2⟩; have m0 := h2.grown.cell s0 hG; have m1 := h2.grown.cell s1 hG; have HU := Lib.hid (And.intro h1 (And.intro (h2.out a (.inl b2)) hP)); clear h1 h2 hP))
  go_wp2
  go_ret
  have hs3 := HU.out.1.grown.size
  have hst := (HU.out.1.cong H1.out H5.out)
  refine ⟨_, P3, rfl, hst.below (by go_grown), Got.mk hst rfl (by simpa using hs3) ⟨_, _, block_new _ _, rfl⟩ (hst.apart (Nat.le_refl _)) (Dir.mk2 (f := 1) (g := 0) (by rw [hxe]; rfl) (by rw [hxe]; simp) HL.out b1 (by have := H5.out; omega) (by omega) (by have := H5.out; omega) (block_new _ _) (by rw [HU.out.2.1, HT.out.2]; rfl) (by rw [HU.out.2.2]; rfl))⟩

set_option maxRecDepth 100000 in
set_option maxHeartbeats 1600000 in
theorem both_array (c : Ctx) (N i : Nat) (ih : NodeTo c N) (hf : Fit c.E c.n) (hn : c.n ≤ 400) (lv : Value) (w : World) (P : Nat → Value) (hi : i < c.n) (hs : sz c.E i ≤ N + 1) (hb : Bld c w P) (hI : IntsIn c w lv (kids c.E i)) (hk : (c.E i).kind = 11) (hex : ∀ k ∈ kids c.E i, ex (c.E k)) :
    Calls Try.prog 46 #[.pointer (some ⟨c.bb, 0, none⟩), (c.E i).v, lv] w fun e w' => ∃ v P', e = .returned v ∧ St c w P (i + 1) (i + sz c.E i) w' P' ∧ Got c w (i + 1) (i + sz c.E i) i w' P' v := by
  have hfi := hf.2.2 i hi
  obtain ⟨ao, cap, rfl⟩ := hI.form
  have HB := Lib.hid hb
  have HC := Lib.hid (fun (w1 : World) (h1 : Below w.heap.size w w1) => many_any c N ih hn (kids c.E i) (i + 1) (i + sz c.E i) _ w1 P hfi.kin hfi.2.1 hex (fun k hk => by have := hfi.kin.mem hk; omega) (hb.below h1) (hI.below h1))
  clear hb ih hI hex
  generalize hxe : c.E i = x at *
  obtain ⟨kind, op, text, flag, size⟩ := x
  simp only [Nd.v] at *
  subst hk
  go_enter Try.func46, Try.ntmps46
  go_wp2_with (go_at_call 51; refine (HC.out _ (by go_grown)).mono ?_; rintro e w3 ⟨ao3, n3, cap3, P2, rfl, h1⟩; have HT := Lib.hid h1; clear h1)
  go_ret
  have hst := HT.out.from_below (w := w) (by go_grown)
  have hs3 := hst.grown.size
  refine ⟨_, P2, rfl, hst.below (by go_grown), Got.mk hst rfl (by simpa using hs3) ⟨_, _, block_new _ _, rfl⟩ (hst.apart (Nat.le_refl _)) ⟨fun T0 S0 F hd => (by rw [hxe] at hd; simp [dirT] at hd), fun T0 hd => (by rw [hxe] at hd; exact Option.some.inj hd)⟩⟩
end Go.Proofs.Ytkpfbgeaodopoaa.fnDirect
