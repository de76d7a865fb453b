/-
  FnDirect: the builder's bind.
-/
import Derived.Test.YtkpfbgeaodopoaaDirFun
import Derived.Test.YtkpfbgeaodopoaaDirBoth
namespace Go.Proofs.Ytkpfbgeaodopoaa.fnDirect
open Go.RowKit
set_option linter.unusedSimpArgs false
set_option linter.unusedVariables false

theorem cells12 {w : World} {n : Nat} {a' b' c' d' e' f' g' h' i' j' k' l' : Value} {t : TypeId} (hh : w.heap[n]? = some (.cells #[a', b', c', d', e', f', g', h', i', j', k', l'] t (0, 0))) :
    w.cell? ⟨n, 0, none⟩ = some a' ∧ w.cell? ⟨n, 1, none⟩ = some b' ∧ w.cell? ⟨n, 2, none⟩ = some c' ∧ w.cell? ⟨n, 3, none⟩ = some d' ∧ w.cell? ⟨n, 4, none⟩ = some e' ∧ w.cell? ⟨n, 5, none⟩ = some f' ∧ w.cell? ⟨n, 6, none⟩ = some g' ∧ w.cell? ⟨n, 7, none⟩ = some h' ∧ w.cell? ⟨n, 8, none⟩ = some i' ∧ w.cell? ⟨n, 9, none⟩ = some j' ∧ w.cell? ⟨n, 10, none⟩ = some k' ∧ w.cell? ⟨n, 11, none⟩ = some l' :=
  ⟨cell_of_block hh (i := 0) rfl, cell_of_block hh (i := 1) rfl, cell_of_block hh (i := 2) rfl, cell_of_block hh (i := 3) rfl, cell_of_block hh (i := 4) rfl, cell_of_block hh (i := 5) rfl, cell_of_block hh (i := 6) rfl, cell_of_block hh (i := 7) rfl, cell_of_block hh (i := 8) rfl, cell_of_block hh (i := 9) rfl, cell_of_block hh (i := 10) rfl, cell_of_block hh (i := 11) rfl⟩

theorem free12 {w : World} {n : Nat} {C : Array Value} {t : TypeId} (hh : w.heap[n]? = some (.cells C t (0, 0))) :
    w.frozen? ⟨n, 0, none⟩ = false ∧ w.frozen? ⟨n, 1, none⟩ = false ∧ w.frozen? ⟨n, 2, none⟩ = false ∧ w.frozen? ⟨n, 3, none⟩ = false ∧ w.frozen? ⟨n, 4, none⟩ = false ∧ w.frozen? ⟨n, 5, none⟩ = false ∧ w.frozen? ⟨n, 6, none⟩ = false ∧ w.frozen? ⟨n, 7, none⟩ = false ∧ w.frozen? ⟨n, 8, none⟩ = false ∧ w.frozen? ⟨n, 9, none⟩ = false ∧ w.frozen? ⟨n, 10, none⟩ = false ∧ w.frozen? ⟨n, 11, none⟩ = false :=
  ⟨free_of_block (i := 0) hh, free_of_block (i := 1) hh, free_of_block (i := 2) hh, free_of_block (i := 3) hh, free_of_block (i := 4) hh, free_of_block (i := 5) hh, free_of_block (i := 6) hh, free_of_block (i := 7) hh, free_of_block (i := 8) hh, free_of_block (i := 9) hh, free_of_block (i := 10) hh, free_of_block (i := 11) hh⟩

theorem grown12 (w : World) (n : Nat) (a' b' c' d' e' f' g' h' i' j' k' l' : Value) : w.grownBy ((((((((((((w.setCell ⟨n, 0, none⟩ a').setCell ⟨n, 1, none⟩ b').setCell ⟨n, 2, none⟩ c').setCell ⟨n, 3, none⟩ d').setCell ⟨n, 4, none⟩ e').setCell ⟨n, 5, none⟩ f').setCell ⟨n, 6, none⟩ g').setCell ⟨n, 7, none⟩ h').setCell ⟨n, 8, none⟩ i').setCell ⟨n, 9, none⟩ j').setCell ⟨n, 10, none⟩ k').setCell ⟨n, 11, none⟩ l') (some n) :=
  (World.grownBy.trans (World.grownBy.trans (World.grownBy.trans (World.grownBy.trans (World.grownBy.trans (World.grownBy.trans (World.grownBy.trans (World.grownBy.trans (World.grownBy.trans (World.grownBy.trans (World.grownBy.trans (grown_set _ _ _) (grown_set _ _ _)) (grown_set _ _ _)) (grown_set _ _ _)) (grown_set _ _ _)) (grown_set _ _ _)) (grown_set _ _ _)) (grown_set _ _ _)) (grown_set _ _ _)) (grown_set _ _ _)) (grown_set _ _ _)) (grown_set _ _ _))

/-- bind, of binds that are small enough. -/
def Bound (c : Ctx) (N i : Nat) : Prop := (c.E i).kind = 32 ∧ sz c.E i ≤ N + 1 ∧ (((c.E i).flag = 0 ∧ ∃ a, kids c.E i = [a] ∧ ex (c.E a)) ∨ ((c.E i).flag = 1 ∧ ∃ l q, kids c.E i = l ++ [q] ∧ (∀ k ∈ l, Par c.E k) ∧ ex (c.E q)))

set_option maxRecDepth 100000 in
set_option maxHeartbeats 1600000 in
theorem bind_plain (c : Ctx) (N i : Nat) (ih : NodeTo c N) (hf : Fit c.E c.n) (hn : c.n ≤ 400) (w : World) (P : Nat → Value) (hi : i < c.n) (hk : (c.E i).kind = 32) (hs : sz c.E i ≤ N + 1) (hb : Bld c w P) (hfl : (c.E i).flag = 0) (a : Nat) (hl : kids c.E i = [a]) (hxa : ex (c.E a)) :
    Calls Try.prog 59 #[.pointer (some ⟨c.bb, 0, none⟩), .int .i64 i] w fun e w' => ∃ T y fn P', e = .returned (.agg #[.slice none 0 0, (.iface T (.pointer (some ⟨y, 0, none⟩))), .slice none 0 0, .string (c.E i).text, .slice none 0 0, (.pointer fn), .pointer none, .string ⟨#[]⟩, .int .i64 0, .int .i64 0, .int .i64 0, .int .i64 0]) ∧ St c w P i (i + sz c.E i) w' P' := by
  have HF := Lib.hid hf
  have HB := Lib.hid hb
  have IH := Lib.hid ih
  have hfi := hf.2.2 i hi
  have hnx : ¬ ex (c.E i) := by unfold ex; omega
  have hab := hb.lta hi
  have hpb := hb.ltp
  have hbb := hb.ltb
  obtain ⟨a1, a2, a3, a4, a5⟩ := hf.kid1 hi hl
  have hlen : (kids c.E i).length = 1 := by rw [hl]; rfl
  have H1 := Lib.hid a1
  have H3 := Lib.hid a3
  have HL := Lib.hid hl
  have HX := Lib.hid hxa
  have HKF := Lib.hid (And.intro hk (And.intro hfl hlen))
  clear hb ih hf hl a1 a3 hxa hk hfl hlen
  go_enter Try.func59, Try.ntmps59
  go_wp2_with fail
  obtain ⟨w0, hw0⟩ : ∃ w0, w.alloc (.cells #[.slice none 0 0, .nilIface, .slice none 0 0, .string ⟨#[]⟩, .slice none 0 0, .pointer none, .pointer none, .string ⟨#[]⟩, .int .i64 0, .int .i64 0, .int .i64 0, .int .i64 0] 198) = w0 := ⟨_, rfl⟩
  rw [hw0]
  have hb0 : Below w.heap.size w w0 := by rw [← hw0]; go_grown
  have hr0 : w0.heap[w.heap.size]? = some (.cells #[.slice none 0 0, .nilIface, .slice none 0 0, .string ⟨#[]⟩, .slice none 0 0, .pointer none, .pointer none, .string ⟨#[]⟩, .int .i64 0, .int .i64 0, .int .i64 0, .int .i64 0] 198 (0, 0)) := by rw [← hw0]; exact block_new _ _
  have HB0 := Lib.hid (HB.out.below hb0)
  have hs0 := lt_of_block hr0
  have HR0 := Lib.hid hr0
  clear hw0 hr0
  have c0 := HB0.out.c0
  obtain ⟨q0, q1, q2, q3, q4⟩ := HB0.out.t i hi
  go_region_held3 (fun w' => w'.cell? ⟨c.bb, 0, none⟩ = some (.slice (some c.a) c.n c.cap) ∧ w'.cell? (c.a.add (i * 5)) = some (.int .i64 (c.E i).kind) ∧ w'.cell? ⟨(c.a.add (i * 5)).block, (c.a.add (i * 5)).off + 1, none⟩ = some (.int .i64 (c.E i).op) ∧ w'.cell? ⟨(c.a.add (i * 5)).block, (c.a.add (i * 5)).off + 2, none⟩ = some (.string (c.E i).text) ∧ w'.cell? ⟨(c.a.add (i * 5)).block, (c.a.add (i * 5)).off + 3, none⟩ = some (.int .i64 (c.E i).flag) ∧ w'.cell? ⟨(c.a.add (i * 5)).block, (c.a.add (i * 5)).off + 4, none⟩ = some (.int .i64 (c.E i).size)) (first | with_reducible exact ⟨c0, q0, q1, q2, q3, q4⟩ | with_reducible exact ⟨cell_past _ c0, cell_past _ q0, cell_past _ q1, cell_past _ q2, cell_past _ q3, cell_past _ q4⟩ | with_reducible exact ⟨past5 (cell_later hb1 c0) n2, past5 (cell_later hb1 q0) n3, past5 (cell_later hb1 q1) n3, past5 (cell_later hb1 q2) n3, past5 (cell_later hb1 q3) n3, past5 (cell_later hb1 q4) n3⟩ | with_reducible exact ⟨cell_later hb1 c0, cell_later hb1 q0, cell_later hb1 q1, cell_later hb1 q2, cell_later hb1 q3, cell_later hb1 q4⟩ | with_reducible exact ⟨cell_past _ (cell_later hb1 c0), cell_past _ (cell_later hb1 q0), cell_past _ (cell_later hb1 q1), cell_past _ (cell_later hb1 q2), cell_past _ (cell_later hb1 q3), cell_past _ (cell_later hb1 q4)⟩ | with_reducible exact ⟨cell_drew c0, cell_drew q0, cell_drew q1, cell_drew q2, cell_drew q3, cell_drew q4⟩ | with_reducible exact ⟨cell_drew (cell_past _ c0), cell_drew (cell_past _ q0), cell_drew (cell_past _ q1), cell_drew (cell_past _ q2), cell_drew (cell_past _ q3), cell_drew (cell_past _ q4)⟩) (first | (go_at_call 43; refine (kids_any c i _ P HF.out hn hi (HB0.out.below (by go_grown))).mono ?_; rintro e w1 ⟨v, rfl, h1, h2⟩; have hb1 : Below w0.heap.size w0 w1 := below_step (Nat.le_refl _) (by go_grown) h2; have n0 := World.new_ne w1 _ (cell_later hb1 c0); have n1 := World.new_ne w1 _ (cell_later hb1 q0); obtain ⟨ao, cap, rfl⟩ := (h1 _ (fun _ _ _ => rfl)).form; have HI := Lib.hid (show Far c _ w1 _ (kids c.E i) from h1); clear h1; (try (have hz := kept_new h2 (n := w0.heap.size) rfl; obtain ⟨z0, z1, z2, z3, z4, y0, y1, y2, y3, y4⟩ := cells5 hz; have n2 := World.new_ne w0 _ c0; have n3 := World.new_ne w0 _ q0))))
  all_goals
    obtain ⟨W, nb, hW, hnb, HV⟩ : ∃ W nb, W = _ ∧ nb = _ ∧ Hid (Var c (.slice ao (kids c.E i).length cap) (kids c.E i) w0 W nb (c.E i)) := by first | exact ⟨_, _, rfl, rfl, Lib.hid (var3 (x := c.E i) hb1 HI.out hz (by simp))⟩ | exact ⟨_, _, rfl, rfl, Lib.hid (var2 (x := c.E i) hb1 HI.out)⟩
    rw [← hW]
    rw [← hnb]
    clear hW hnb
    clear c0 q0 q1 q2 q3 q4
    obtain ⟨z0, z1, z2, z3, z4, y0, y1, y2, y3, y4⟩ := cells5 HV.out.2.2.2
    have hbW : Below w.heap.size w W := below_step (Nat.le_refl _) hb0 HV.out.2.1
    have hsW := HV.out.2.1.size
    have HRW := Lib.hid ((HV.out.2.1.block _ hs0).trans HR0.out)
    obtain ⟨hk, hfl, hlen⟩ := HKF.out
    rw [hk] at z0
    rw [hfl] at z3
    have e1 := (HB.out.below hbW).c1
    have e1' := fun o => cell_past o e1
    have z0' := fun o => cell_past o z0
    have z3' := fun o => cell_past o z3
    rw [hlen] at HV ⊢
    obtain ⟨g2, o2, rfl, hg2', hc2⟩ := HV.out.1.get (i := 0) (k := a) (by rw [HL.out]; rfl)
    rw [Nat.add_zero] at hc2
    have hc2' := fun o => cell_past o hc2
    have HC := Lib.hid (fun (o : Obj) => ((St.refl HB.out a).below (w2 := W.alloc o) (by go_grown)).node IH.out HB.out (Nat.le_refl _) a4 HX.out (by omega) a2)
    go_wp2_with (go_at_call 31; refine (HC.out _).mono ?_; rintro e w3 ⟨P2, T, x, rfl, -, -, hP, h1, h2⟩; have hpk := h2.block (b := W.heap.size) (block_new W _) (by omega); have hrb := h2.block (b := w.heap.size) (block_alloc HRW.out _) (by omega); obtain ⟨l0, l1, l2, l3, l4, l5, l6, l7, l8, l9, l10, l11⟩ := cells12 hpk; have lf := free_of_block (i := 1) hpk; obtain ⟨r0, r1, r2, r3, r4, r5, r6, r7, r8, r9, r10, r11⟩ := cells12 hrb; obtain ⟨f0, f1, f2, f3, f4, f5, f6, f7, f8, f9, f10, f11⟩ := free12 hrb; have hne := (show W.heap.size ≠ w.heap.size by omega); have hne' := hne.symm; have HPK := Lib.hid (And.intro hpk hrb); have HT := Lib.hid h1; clear h1 h2 hpk hrb)
    refine bodyPost_ret (v := .agg #[.slice none 0 0, (.iface T (.pointer (some ⟨x, 0, none⟩))), .slice none 0 0, .string (c.E i).text, .slice none 0 0, (.pointer none), .pointer none, .string ⟨#[]⟩, .int .i64 0, .int .i64 0, .int .i64 0, .int .i64 0]) (by simp [results, Try.results59, go_sem, hne, hne', r0, r1, r2, r3, r4, r5, r6, r7, r8, r9, r10, r11]) rfl ?_
    refine ⟨T, x, none, P2, rfl, ?_⟩
    have h5 := HT.out.set (i := 1) HB.out hab (by omega) HPK.out.1 (by decide) (.iface T (.pointer (some ⟨x, 0, none⟩)))
    exact St.skip (St.cong (St.write h5 (grown12 _ w.heap.size _ _ _ _ _ _ _ _ _ _ _ _) (Nat.le_refl _) hab HB.out (block_set_other HPK.out.2 hne' _) (by decide)) H1.out H3.out) hnx

set_option maxRecDepth 100000 in
set_option maxHeartbeats 1600000 in
theorem bind_fun (c : Ctx) (N i : Nat) (ih : NodeTo c N) (hf : Fit c.E c.n) (hn : c.n ≤ 400) (w : World) (P : Nat → Value) (hi : i < c.n) (hk : (c.E i).kind = 32) (hs : sz c.E i ≤ N + 1) (hb : Bld c w P) (hfl : (c.E i).flag = 1) (l : List Nat) (q : Nat) (hl : kids c.E i = l ++ [q]) (hp : ∀ k ∈ l, Par c.E k) (hq : ex (c.E q)) :
    Calls Try.prog 59 #[.pointer (some ⟨c.bb, 0, none⟩), .int .i64 i] w fun e w' => ∃ T y fn P', e = .returned (.agg #[.slice none 0 0, (.iface T (.pointer (some ⟨y, 0, none⟩))), .slice none 0 0, .string (c.E i).text, .slice none 0 0, (.pointer fn), .pointer none, .string ⟨#[]⟩, .int .i64 0, .int .i64 0, .int .i64 0, .int .i64 0]) ∧ St c w P i (i + sz c.E i) w' P' := by
  have HF := Lib.hid hf
  have HB := Lib.hid hb
  have IH := Lib.hid ih
  have hfi := hf.2.2 i hi
  have hnx : ¬ ex (c.E i) := by unfold ex; omega
  have hab := hb.lta hi
  have hpb := hb.ltp
  have hbb := hb.ltb
  have hlen : (kids c.E i).length = l.length + 1 := by rw [hl]; simp
  have HL := Lib.hid hl
  have HP := Lib.hid hp
  have HQ := Lib.hid hq
  have HKF := Lib.hid (And.intro hk (And.intro hfl hlen))
  clear hb ih hf hl hp hq hk hfl hlen
  go_enter Try.func59, Try.ntmps59
  go_wp2_with fail
  obtain ⟨w0, hw0⟩ : ∃ w0, w.alloc (.cells #[.slice none 0 0, .nilIface, .slice none 0 0, .string ⟨#[]⟩, .slice none 0 0, .pointer none, .pointer none, .string ⟨#[]⟩, .int .i64 0, .int .i64 0, .int .i64 0, .int .i64 0] 198) = w0 := ⟨_, rfl⟩
  rw [hw0]
  have hb0 : Below w.heap.size w w0 := by rw [← hw0]; go_grown
  have hr0 : w0.heap[w.heap.size]? = some (.cells #[.slice none 0 0, .nilIface, .slice none 0 0, .string ⟨#[]⟩, .slice none 0 0, .pointer none, .pointer none, .string ⟨#[]⟩, .int .i64 0, .int .i64 0, .int .i64 0, .int .i64 0] 198 (0, 0)) := by rw [← hw0]; exact block_new _ _
  have HB0 := Lib.hid (HB.out.below hb0)
  have hs0 := lt_of_block hr0
  have HR0 := Lib.hid hr0
  clear hw0 hr0
  have c0 := HB0.out.c0
  obtain ⟨q0, q1, q2, q3, q4⟩ := HB0.out.t i hi
  go_region_held3 (fun w' => w'.cell? ⟨c.bb, 0, none⟩ = some (.slice (some c.a) c.n c.cap) ∧ w'.cell? (c.a.add (i * 5)) = some (.int .i64 (c.E i).kind) ∧ w'.cell? ⟨(c.a.add (i * 5)).block, (c.a.add (i * 5)).off + 1, none⟩ = some (.int .i64 (c.E i).op) ∧ w'.cell? ⟨(c.a.add (i * 5)).block, (c.a.add (i * 5)).off + 2, none⟩ = some (.string (c.E i).text) ∧ w'.cell? ⟨(c.a.add (i * 5)).block, (c.a.add (i * 5)).off + 3, none⟩ = some (.int .i64 (c.E i).flag) ∧ w'.cell? ⟨(c.a.add (i * 5)).block, (c.a.add (i * 5)).off + 4, none⟩ = some (.int .i64 (c.E i).size)) (first | with_reducible exact ⟨c0, q0, q1, q2, q3, q4⟩ | with_reducible exact ⟨cell_past _ c0, cell_past _ q0, cell_past _ q1, cell_past _ q2, cell_past _ q3, cell_past _ q4⟩ | with_reducible exact ⟨past5 (cell_later hb1 c0) n2, past5 (cell_later hb1 q0) n3, past5 (cell_later hb1 q1) n3, past5 (cell_later hb1 q2) n3, past5 (cell_later hb1 q3) n3, past5 (cell_later hb1 q4) n3⟩ | with_reducible exact ⟨cell_later hb1 c0, cell_later hb1 q0, cell_later hb1 q1, cell_later hb1 q2, cell_later hb1 q3, cell_later hb1 q4⟩ | with_reducible exact ⟨cell_past _ (cell_later hb1 c0), cell_past _ (cell_later hb1 q0), cell_past _ (cell_later hb1 q1), cell_past _ (cell_later hb1 q2), cell_past _ (cell_later hb1 q3), cell_past _ (cell_later hb1 q4)⟩ | with_reducible exact ⟨cell_drew c0, cell_drew q0, cell_drew q1, cell_drew q2, cell_drew q3, cell_drew q4⟩ | with_reducible exact ⟨cell_drew (cell_past _ c0), cell_drew (cell_past _ q0), cell_drew (cell_past _ q1), cell_drew (cell_past _ q2), cell_drew (cell_past _ q3), cell_drew (cell_past _ q4)⟩) (first | (go_at_call 43; refine (kids_any c i _ P HF.out hn hi (HB0.out.below (by go_grown))).mono ?_; rintro e w1 ⟨v, rfl, h1, h2⟩; have hb1 : Below w0.heap.size w0 w1 := below_step (Nat.le_refl _) (by go_grown) h2; have n0 := World.new_ne w1 _ (cell_later hb1 c0); have n1 := World.new_ne w1 _ (cell_later hb1 q0); obtain ⟨ao, cap, rfl⟩ := (h1 _ (fun _ _ _ => rfl)).form; have HI := Lib.hid (show Far c _ w1 _ (kids c.E i) from h1); clear h1; (try (have hz := kept_new h2 (n := w0.heap.size) rfl; obtain ⟨z0, z1, z2, z3, z4, y0, y1, y2, y3, y4⟩ := cells5 hz; have n2 := World.new_ne w0 _ c0; have n3 := World.new_ne w0 _ q0))))
  all_goals
    obtain ⟨W, nb, hW, hnb, HV⟩ : ∃ W nb, W = _ ∧ nb = _ ∧ Hid (Var c (.slice ao (kids c.E i).length cap) (kids c.E i) w0 W nb (c.E i)) := by first | exact ⟨_, _, rfl, rfl, Lib.hid (var3 (x := c.E i) hb1 HI.out hz (by simp))⟩ | exact ⟨_, _, rfl, rfl, Lib.hid (var2 (x := c.E i) hb1 HI.out)⟩
    rw [← hW]
    rw [← hnb]
    clear hW hnb
    clear c0 q0 q1 q2 q3 q4
    obtain ⟨z0, z1, z2, z3, z4, y0, y1, y2, y3, y4⟩ := cells5 HV.out.2.2.2
    have hbW : Below w.heap.size w W := below_step (Nat.le_refl _) hb0 HV.out.2.1
    have hsW := HV.out.2.1.size
    have HRW := Lib.hid ((HV.out.2.1.block _ hs0).trans HR0.out)
    obtain ⟨hk, hfl, hlen⟩ := HKF.out
    rw [hk] at z0
    rw [hfl] at z3
    have e1 := (HB.out.below hbW).c1
    have e1' := fun o => cell_past o e1
    have z0' := fun o => cell_past o z0
    have z3' := fun o => cell_past o z3
    rw [hlen] at HV ⊢
    have HC := Lib.hid (fun (o : Obj) => function_any c N IH.out HF.out hn l q (i + 1) (i + sz c.E i) (.slice ao (l.length + 1) cap) (W.alloc o) P (by rw [← HL.out]; exact hfi.kin) hfi.2.1 HP.out HQ.out (fun k h1 h2 => by omega) (HB.out.below (by go_grown)) (by rw [← HL.out]; exact HV.out.1.below (by go_grown)))
    go_wp2_with (go_at_call 53; refine (HC.out _).mono ?_; rintro e w3 ⟨x, P2, T, y, rfl, hx1, hx2, h1, hap, hcb⟩; have hsx : W.heap.size + 1 ≤ x := (by simpa using hx1); have hpk := h1.block (b := W.heap.size) (block_new W _) (by omega); have hrb := h1.block (b := w.heap.size) (block_alloc HRW.out _) (by omega); obtain ⟨l0, l1, l2, l3, l4, l5, l6, l7, l8, l9, l10, l11⟩ := cells12 hpk; have lf := free_of_block (i := 1) hpk; have lf5 := free_of_block (i := 5) hpk; obtain ⟨r0, r1, r2, r3, r4, r5, r6, r7, r8, r9, r10, r11⟩ := cells12 hrb; obtain ⟨f0, f1, f2, f3, f4, f5, f6, f7, f8, f9, f10, f11⟩ := free12 hrb; have hne := (show W.heap.size ≠ w.heap.size by omega); have hne' := hne.symm; have hxn := (show W.heap.size ≠ x by omega); have hxn' := hxn.symm; have HPK := Lib.hid (And.intro hpk hrb); have HT := Lib.hid (h1.from_below (w := w) (by go_grown)); clear h1 hpk hrb)
    refine bodyPost_ret (v := .agg #[.slice none 0 0, (.iface T (.pointer (some ⟨y, 0, none⟩))), .slice none 0 0, .string (c.E i).text, .slice none 0 0, (.pointer (some ⟨x, 0, none⟩)), .pointer none, .string ⟨#[]⟩, .int .i64 0, .int .i64 0, .int .i64 0, .int .i64 0]) (by simp [results, Try.results59, go_sem, hne, hne', r0, r1, r2, r3, r4, r5, r6, r7, r8, r9, r10, r11]) rfl ?_
    refine ⟨T, y, _, P2, rfl, ?_⟩
    have h5 := (HT.out.set (i := 5) HB.out hab (by omega) HPK.out.1 (by decide) (.pointer (some ⟨x, 0, none⟩))).set (i := 1) HB.out hab (by omega) (block_setCell HPK.out.1) (by decide) (.iface T (.pointer (some ⟨y, 0, none⟩)))
    exact St.skip (St.write h5 (grown12 _ w.heap.size _ _ _ _ _ _ _ _ _ _ _ _) (Nat.le_refl _) hab HB.out (block_set_other (block_set_other HPK.out.2 hne' _) hne' _) (by decide)) hnx
end Go.Proofs.Ytkpfbgeaodopoaa.fnDirect
