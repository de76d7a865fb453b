/-
  FnDirect: the builder's sugar: dots, brackets, braces, slices, asserts.
-/
import Derived.Test.YtkpfbgeaodopoaaDirCond
import Derived.Test.YtkpfbgeaodopoaaHeld
namespace Go.Proofs.Ytkpfbgeaodopoaa.fnDirect
open Go.RowKit
set_option linter.unusedSimpArgs false
set_option linter.unusedVariables false

theorem Dir.mono' {c : Ctx} {w w' : World} {P P' : Nat → Value} {k k' i : Nat} {T : TypeId} {x : Nat} (h : Dir c w P k i T x) (hk : k ≤ k') (hP : ∀ a, i < a → a < k → P' a = P a)
    (hw : ∀ C S, nodeS S = true → w.heap[x]? = some (.cells C S (0, 0)) → w'.heap[x]? = some (.cells C S (0, 0))) : Dir c w' P' k' i T x := by
  refine ⟨fun T0 S0 F hd => ?_, h.2⟩
  obtain ⟨h1, C, h2, h3, h4⟩ := h.1 T0 S0 F hd
  refine ⟨h1, C, hw C S0 (dirT_node hd) h2, fun f j hfj => ?_, h4⟩
  obtain ⟨a, h5, h8, h6, h7⟩ := h3 f j hfj
  exact ⟨a, h5, h8, by omega, by rw [hP a h8 h6]; exact h7⟩

/-- The later places are built ahead of the earlier ones. -/
theorem St.swap {c : Ctx} {w w1 w2 : World} {P P1 P2 : Nat → Value} {b d hi : Nat} (h1 : St c w P d hi w1 P1) (h2 : St c w1 P1 b d w2 P2) (hb : Bld c w P) (hbd : b ≤ d) (hd : d ≤ hi) : St c w P b hi w2 P2 := by
  have n2 := hb.ltp
  have hP : ∀ i, d ≤ i → P2 i = P1 i := fun i hi => h2.out i (.inr (.inl hi))
  refine ⟨h1.grown.andThen h2.grown (fun j hj => .inr hj), h2.bld, fun i hi => ?_, fun i h3 h4 h5 => ?_, fun i j T T' x h3 h4 h5 h6 h7 h8 h9 h10 => ?_⟩
  · rw [h2.out i (or3 hi (fun h => h) (fun h => by omega)), h1.out i (or3 hi (fun h => by omega) (fun h => h))]
  · by_cases hik : i < d
    · obtain ⟨T, x, e1, e2, e3, e4, e5⟩ := h2.fine i h3 hik h5
      exact ⟨T, x, e1, e2, Nat.le_trans h1.grown.size e3, e4, e5.mono' hd (fun _ _ _ => rfl) (fun _ _ _ h => h)⟩
    · rw [hP i (by omega)]
      obtain ⟨T, x, e1, e2, e3, e4, e5⟩ := h1.fine i (by omega) h4 h5
      exact ⟨T, x, e1, e2, e3, e4.grown h2.grown (by simp; omega), e5.mono' (Nat.le_refl _) (fun a h6 h7 => hP a (by omega)) (fun C S _ hx => block_grown hx h2.grown (by simp; omega))⟩
  · by_cases hik : i < d <;> by_cases hjk : j < d
    · exact h2.inj i j T T' x h3 hik h5 h6 hjk h8 h9 h10
    · exfalso
      rw [hP j (by omega)] at h10
      obtain ⟨T1, x1, e1, e2, e3, e4, e5⟩ := h2.fine i h3 hik h5
      obtain ⟨T2, x2, f1, f2, f3, f4, f5⟩ := h1.fine j (by omega) h7 h8
      rw [h9] at e1
      rw [h10] at f1
      simp at e1 f1
      have l1 := e4.lt
      have l2 := f4.lt
      omega
    · exfalso
      rw [hP i (by omega)] at h9
      obtain ⟨T1, x1, e1, e2, e3, e4, e5⟩ := h2.fine j h6 hjk h8
      obtain ⟨T2, x2, f1, f2, f3, f4, f5⟩ := h1.fine i (by omega) h4 h5
      rw [h10] at e1
      rw [h9] at f1
      simp at e1 f1
      have l1 := e4.lt
      have l2 := f4.lt
      omega
    · rw [hP i (by omega)] at h9
      rw [hP j (by omega)] at h10
      exact h1.inj i j T T' x (by omega) h4 h5 (by omega) h7 h8 h9 h10

theorem Apart.cong {c : Ctx} {x lo k : Nat} {P P' : Nat → Value} (h : Apart c x lo k P) (hP : ∀ j, lo ≤ j → j < k → P' j = P j) : Apart c x lo k P' := by
  intro j T h1 h2 h3 h4
  rw [hP j h1 h2] at h4
  exact h j T h1 h2 h3 h4

theorem Apart.join {c : Ctx} {x lo m k : Nat} {P : Nat → Value} (h : Apart c x lo m P) (h' : Apart c x m k P) : Apart c x lo k P := by
  intro j T h1 h2 h3 h4
  by_cases hj : j < m
  · exact h j T h1 hj h3 h4
  · exact h' j T (by omega) h2 h3 h4

theorem St.apart_low {c : Ctx} {x lo k : Nat} {w w' : World} {P P' : Nat → Value} (hs : St c w P lo k w' P') (hx : x < w.heap.size) : Apart c x lo k P' := by
  intro j T h1 h2 h3 h4
  obtain ⟨T1, x1, e1, e2, e3, e4, e5⟩ := hs.fine j h1 h2 h3
  rw [h4] at e1
  have e6 := (Value.iface.inj e1).2
  simp at e6
  all_goals omega

set_option maxRecDepth 100000 in
set_option maxHeartbeats 1600000 in
theorem sugar_dot (c : Ctx) (N i : Nat) (ih : NodeTo c N) (hf : Fit c.E c.n) (hn : c.n ≤ 400) (lv : Value) (w : World) (P : Nat → Value) (hi : i < c.n) (hs : sz c.E i ≤ N + 1) (hb : Bld c w P) (hI : IntsIn c w lv (kids c.E i)) (a : Nat) (hk : (c.E i).kind = 16) (hl : kids c.E i = [a]) (hxa : ex (c.E a))  :
    Calls Try.prog 48 #[.pointer (some ⟨c.bb, 0, none⟩), (c.E i).v, lv] w fun e w' => ∃ v P', e = .returned v ∧ St c w P (i + 1) (i + sz c.E i) w' P' ∧ Got c w (i + 1) (i + sz c.E i) i w' P' v := by
  obtain ⟨a1, a2, a3, a4, a5⟩ := hf.kid1 hi hl
  obtain ⟨ao, cap, rfl⟩ := hI.form
  obtain ⟨g, o, rfl, hg, hc⟩ := hI.get (i := 0) (k := a) (by rw [hl]; rfl)
  rw [Nat.add_zero] at hc
  have hlen : (kids c.E i).length = 1 := by rw [hl]; rfl
  rw [hlen]
  have HB := Lib.hid hb
  have HC := Lib.hid (fun (w1 : World) (h1 : Below w.heap.size w w1) => ((St.refl hb a).below h1).node ih hb (Nat.le_refl _) a4 hxa (by omega) a2)
  have hc' := fun o => cell_past o hc
  have hc'' := fun o o' => cell_past o' (cell_past o hc)
  have H1 := Lib.hid a1
  have H3 := Lib.hid a3
  have HL := Lib.hid hl
  have HK := Lib.hid hk
  have b1 : i < a := by omega
  clear hb ih hI hl a1 a3
  generalize hxe : c.E i = x at *
  obtain ⟨kind, op, text, flag, size⟩ := x
  simp only [Nd.v] at *
  subst hk
  go_enter Try.func48, Try.ntmps48
  go_wp2_with (first | (go_at_call 50; refine (count_any c _ _ _ _ _ _ (by omega) (by omega)).mono ?_; rintro e wc ⟨rfl, rfl⟩) | (go_at_call 31; refine (HC.out _ (by go_grown)).mono ?_; rintro e w3 ⟨P2, T, x, rfl, -, -, hP, h1, -⟩; have HT := Lib.hid (And.intro h1 hP); clear h1 hP))
  go_ret
  have hs3 := HT.out.1.grown.size
  have hst := (HT.out.1.cong H1.out H3.out)
  refine ⟨_, P2, rfl, hst.below (by go_grown), Got.mk hst rfl (by simpa using hs3) ⟨_, _, block_new _ _, rfl⟩ (hst.apart (Nat.le_refl _)) (Dir.other (by rw [hxe]; rfl) (by rw [hxe]; rfl))⟩

set_option maxRecDepth 100000 in
set_option maxHeartbeats 1600000 in
theorem sugar_parens (c : Ctx) (N i : Nat) (ih : NodeTo c N) (hf : Fit c.E c.n) (hn : c.n ≤ 400) (lv : Value) (w : World) (P : Nat → Value) (hi : i < c.n) (hs : sz c.E i ≤ N + 1) (hb : Bld c w P) (hI : IntsIn c w lv (kids c.E i)) (a : Nat) (hk : (c.E i).kind = 30) (hl : kids c.E i = [a]) (hxa : ex (c.E a))  :
    Calls Try.prog 48 #[.pointer (some ⟨c.bb, 0, none⟩), (c.E i).v, lv] w fun e w' => ∃ v P', e = .returned v ∧ St c w P (i + 1) (i + sz c.E i) w' P' ∧ Got c w (i + 1) (i + sz c.E i) i w' P' v := by
  obtain ⟨a1, a2, a3, a4, a5⟩ := hf.kid1 hi hl
  obtain ⟨ao, cap, rfl⟩ := hI.form
  obtain ⟨g, o, rfl, hg, hc⟩ := hI.get (i := 0) (k := a) (by rw [hl]; rfl)
  rw [Nat.add_zero] at hc
  have hlen : (kids c.E i).length = 1 := by rw [hl]; rfl
  rw [hlen]
  have HB := Lib.hid hb
  have HC := Lib.hid (fun (w1 : World) (h1 : Below w.heap.size w w1) => ((St.refl hb a).below h1).node ih hb (Nat.le_refl _) a4 hxa (by omega) a2)
  have hc' := fun o => cell_past o hc
  have H1 := Lib.hid a1
  have H3 := Lib.hid a3
  have HL := Lib.hid hl
  have HK := Lib.hid hk
  have b1 : i < a := by omega
  clear hb ih hI hl a1 a3
  generalize hxe : c.E i = x at *
  obtain ⟨kind, op, text, flag, size⟩ := x
  simp only [Nd.v] at *
  subst hk
  go_enter Try.func48, Try.ntmps48
  go_wp2_with (first | (go_at_call 50; refine (count_any c _ _ _ _ _ _ (by omega) (by omega)).mono ?_; rintro e wc ⟨rfl, rfl⟩) | (go_at_call 31; refine (HC.out _ (by go_grown)).mono ?_; rintro e w3 ⟨P2, T, x, rfl, -, -, hP, h1, -⟩; have HT := Lib.hid (And.intro h1 hP); clear h1 hP))
  go_ret
  have hs3 := HT.out.1.grown.size
  have hst := (HT.out.1.cong H1.out H3.out)
  refine ⟨_, P2, rfl, hst.below (by go_grown), Got.mk hst rfl (by simpa using hs3) ⟨_, _, block_new _ _, rfl⟩ (hst.apart (Nat.le_refl _)) (Dir.other (by rw [hxe]; rfl) (by rw [hxe]; rfl))⟩

set_option maxRecDepth 100000 in
set_option maxHeartbeats 1600000 in
theorem sugar_brace (c : Ctx) (N i : Nat) (ih : NodeTo c N) (hf : Fit c.E c.n) (hn : c.n ≤ 400) (lv : Value) (w : World) (P : Nat → Value) (hi : i < c.n) (hs : sz c.E i ≤ N + 1) (hb : Bld c w P) (hI : IntsIn c w lv (kids c.E i)) (a b : Nat) (hk : (c.E i).kind = 29) (hl : kids c.E i = [a, b]) (hxa : ex (c.E a)) (hxb : ex (c.E b)) (hkb : (c.E b).kind = 13) :
    Calls Try.prog 48 #[.pointer (some ⟨c.bb, 0, none⟩), (c.E i).v, lv] w fun e w' => ∃ v P', e = .returned v ∧ St c w P (i + 1) (i + sz c.E i) w' P' ∧ Got c w (i + 1) (i + sz c.E i) i w' P' v := by
  obtain ⟨a1, a2, a3, a4, a5, a6, a7, a8⟩ := hf.kid2 hi hl
  obtain ⟨ao, cap, rfl⟩ := hI.form
  obtain ⟨g, o, rfl, hg, hc⟩ := hI.get (i := 0) (k := a) (by rw [hl]; rfl)
  obtain ⟨g', o', he, -, hd⟩ := hI.get (i := 1) (k := b) (by rw [hl]; rfl)
  obtain ⟨rfl, rfl⟩ : g = g' ∧ o = o' := by simpa using he
  rw [Nat.add_zero] at hc
  have hlen : (kids c.E i).length = 2 := by rw [hl]; rfl
  rw [hlen]
  have HB := Lib.hid hb
  have HC := Lib.hid (fun (w1 : World) (h1 : Below w.heap.size w w1) => ((St.refl hb a).below h1).node ih hb (Nat.le_refl _) (by omega) hxa (by omega) a2)
  have HD := Lib.hid (fun (w1 : World) (P1 : Nat → Value) (h1 : St c w P a (a + sz c.E a) w1 P1) => (h1.cong rfl a3.symm).node ih hb (by omega) (by omega) hxb (by omega) a4)
  have hG : some g ≠ some c.pb := by simpa using hg
  have hc' := fun o => cell_past o hc
  have hd' := fun o => cell_past o hd
  have H1 := Lib.hid a1
  have H3 := Lib.hid a3
  have H5 := Lib.hid a5
  have HL := Lib.hid hl
  have HK := Lib.hid hk
  have b1 : i < a := by omega
  have b2 : a < b := by omega
  have bt0 := hb.c0
  obtain ⟨bq0, -⟩ := hb.t b a6
  rw [hkb] at bq0
  have hb1n : (b : Int) < c.n := by omega
  clear hb ih hI hl a1 a3 a5 he hkb
  generalize hxe : c.E i = x at *
  obtain ⟨kind, op, text, flag, size⟩ := x
  simp only [Nd.v] at *
  subst hk
  go_enter Try.func48, Try.ntmps48
  go_wp2_with fail
  refine held_begin (S := fun w' => w'.cell? ⟨c.bb, 0, none⟩ = some (.slice (some c.a) c.n c.cap) ∧ w'.cell? ⟨g, o + 1, none⟩ = some (.int .i64 (b : Int)) ∧ w'.cell? (c.a.add (b * 5)) = some (.int .i64 13)) 29 (by rfl) (by kernel_rfl) ?_ (fun hHeld => ?_)
  · exact ⟨cell_drew (cell_past _ bt0), cell_drew (cell_past _ hd), cell_drew (cell_past _ bq0)⟩
  refine held_take 0 (some 40) (v := ?_) rfl rfl (by kernel_rfl) (by kernel_rfl) (by kernel_rfl) (fun _ _ _ _ h => h) (by kernel_rfl) ?_ hHeld ?_
  rotate_left 1
  · intro w hSw; (try dsimp only at hSw); go_simp; (try with_reducible rfl)
  try simp only [List.foldl_cons, List.foldl_nil, List.length_cons, List.length_nil, Act.put, List.setIfInBounds_toArray, List.set_cons_zero, List.set_cons_succ]
  refine held_take 1 (some 41) (v := ?_) rfl rfl (by kernel_rfl) (by kernel_rfl) (by kernel_rfl) (fun _ _ _ _ h => h) (by kernel_rfl) ?_ hHeld ?_
  rotate_left 1
  · intro w hSw; (try dsimp only at hSw); go_simp; (try with_reducible rfl)
  try simp only [List.foldl_cons, List.foldl_nil, List.length_cons, List.length_nil, Act.put, List.setIfInBounds_toArray, List.set_cons_zero, List.set_cons_succ]
  refine wpAnyH_ready (rs := [2]) (by kernel_rfl) (by simp) ?_
  refine AllReadyH.cons rfl (fun K hK => ?_) AllReadyH.nil
  go_simp
  go_at_call 50
  refine (count_any c _ _ _ _ _ _ (by omega) (by omega)).mono ?_
  rintro e wc ⟨rfl, rfl⟩
  go_wp2_with fail
  have hOld := hHeld
  clear hHeld
  refine hK.out _ _ ?_ (fun hHeld => ?_)
  · exact hOld
  clear hK K hOld
  try simp only [List.foldl_cons, List.foldl_nil, List.length_cons, List.length_nil, Act.put, List.setIfInBounds_toArray, List.set_cons_zero, List.set_cons_succ]
  refine held_take 3 (some 43) (v := ?_) rfl rfl (by kernel_rfl) (by kernel_rfl) (by kernel_rfl) (fun _ _ _ _ h => h) (by kernel_rfl) ?_ hHeld ?_
  rotate_left 1
  · intro w hSw; (try dsimp only at hSw); go_simp; (try with_reducible rfl)
  try simp only [List.foldl_cons, List.foldl_nil, List.length_cons, List.length_nil, Act.put, List.setIfInBounds_toArray, List.set_cons_zero, List.set_cons_succ]
  refine held_take 4 (some 44) (v := ?_) rfl rfl (by kernel_rfl) (by kernel_rfl) (by kernel_rfl) (fun _ _ _ _ h => h) (by kernel_rfl) ?_ hHeld ?_
  rotate_left 1
  · intro w hSw; (try dsimp only at hSw); go_simp; (try with_reducible rfl)
  try simp only [List.foldl_cons, List.foldl_nil, List.length_cons, List.length_nil, Act.put, List.setIfInBounds_toArray, List.set_cons_zero, List.set_cons_succ]
  refine held_take 5 (some 45) (v := ?_) rfl rfl (by kernel_rfl) (by kernel_rfl) (by kernel_rfl) (fun _ _ _ _ h => h) (by kernel_rfl) ?_ hHeld ?_
  rotate_left 1
  · intro w hSw; (try dsimp only at hSw); go_simp; (try with_reducible rfl)
  try simp only [List.foldl_cons, List.foldl_nil, List.length_cons, List.length_nil, Act.put, List.setIfInBounds_toArray, List.set_cons_zero, List.set_cons_succ]
  refine held_take 6 (some 46) (v := ?_) rfl rfl (by kernel_rfl) (by kernel_rfl) (by kernel_rfl) (fun _ _ _ _ h => h) (by kernel_rfl) ?_ hHeld ?_
  rotate_left 1
  · intro w hSw; (try dsimp only at hSw); go_simp; (try with_reducible rfl)
  try simp only [List.foldl_cons, List.foldl_nil, List.length_cons, List.length_nil, Act.put, List.setIfInBounds_toArray, List.set_cons_zero, List.set_cons_succ]
  refine held_take 7 (some 47) (v := ?_) rfl rfl (by kernel_rfl) (by kernel_rfl) (by kernel_rfl) (fun _ _ _ _ h => h) (by kernel_rfl) ?_ hHeld ?_
  rotate_left 1
  · intro w hSw; (try dsimp only at hSw); go_simp; (try with_reducible rfl)
  try simp only [List.foldl_cons, List.foldl_nil, List.length_cons, List.length_nil, Act.put, List.setIfInBounds_toArray, List.set_cons_zero, List.set_cons_succ]
  refine held_take 8 (some 48) (v := ?_) rfl rfl (by kernel_rfl) (by kernel_rfl) (by kernel_rfl) (fun _ _ _ _ h => h) (by kernel_rfl) ?_ hHeld ?_
  rotate_left 1
  · intro w hSw; (try dsimp only at hSw); go_simp; (try with_reducible rfl)
  try simp only [List.foldl_cons, List.foldl_nil, List.length_cons, List.length_nil, Act.put, List.setIfInBounds_toArray, List.set_cons_zero, List.set_cons_succ]
  refine held_take 9 (some 49) (v := ?_) rfl rfl (by kernel_rfl) (by kernel_rfl) (by kernel_rfl) (fun _ _ _ _ h => h) (by kernel_rfl) ?_ hHeld ?_
  rotate_left 1
  · intro w hSw; (try dsimp only at hSw); go_simp; (try with_reducible rfl)
  try simp only [List.foldl_cons, List.foldl_nil, List.length_cons, List.length_nil, Act.put, List.setIfInBounds_toArray, List.set_cons_zero, List.set_cons_succ]
  refine held_take 10 (some 50) (v := ?_) rfl rfl (by kernel_rfl) (by kernel_rfl) (by kernel_rfl) (fun _ _ _ _ h => h) (by kernel_rfl) ?_ hHeld ?_
  rotate_left 1
  · intro w hSw; (try dsimp only at hSw); go_simp; (try with_reducible rfl)
  try simp only [List.foldl_cons, List.foldl_nil, List.length_cons, List.length_nil, Act.put, List.setIfInBounds_toArray, List.set_cons_zero, List.set_cons_succ]
  refine held_take 11 (some 51) (v := ?_) rfl rfl (by kernel_rfl) (by kernel_rfl) (by kernel_rfl) (fun _ _ _ _ h => h) (by kernel_rfl) ?_ hHeld ?_
  rotate_left 1
  · intro w hSw; (try dsimp only at hSw); go_simp; (try with_reducible rfl)
  try simp only [List.foldl_cons, List.foldl_nil, List.length_cons, List.length_nil, Act.put, List.setIfInBounds_toArray, List.set_cons_zero, List.set_cons_succ]
  refine held_take 12 (some 52) (v := ?_) rfl rfl (by kernel_rfl) (by kernel_rfl) (by kernel_rfl) (fun _ _ _ _ h => h) (by kernel_rfl) ?_ hHeld ?_
  rotate_left 1
  · intro w hSw; (try dsimp only at hSw); go_simp; (try with_reducible rfl)
  try simp only [List.foldl_cons, List.foldl_nil, List.length_cons, List.length_nil, Act.put, List.setIfInBounds_toArray, List.set_cons_zero, List.set_cons_succ]
  refine held_take 13 (some 53) (v := ?_) rfl rfl (by kernel_rfl) (by kernel_rfl) (by kernel_rfl) (fun _ _ _ _ h => h) (by kernel_rfl) ?_ hHeld ?_
  rotate_left 1
  · intro w hSw; (try dsimp only at hSw); go_simp; (try with_reducible rfl)
  try simp only [List.foldl_cons, List.foldl_nil, List.length_cons, List.length_nil, Act.put, List.setIfInBounds_toArray, List.set_cons_zero, List.set_cons_succ]
  refine held_take 14 (some 54) (v := ?_) rfl rfl (by kernel_rfl) (by kernel_rfl) (by kernel_rfl) (fun _ _ _ _ h => h) (by kernel_rfl) ?_ hHeld ?_
  rotate_left 1
  · intro w hSw; (try dsimp only at hSw); go_simp; (try with_reducible rfl)
  try simp only [List.foldl_cons, List.foldl_nil, List.length_cons, List.length_nil, Act.put, List.setIfInBounds_toArray, List.set_cons_zero, List.set_cons_succ]
  refine held_take 15 (some 55) (v := ?_) rfl rfl (by kernel_rfl) (by kernel_rfl) (by kernel_rfl) (fun _ _ _ _ h => h) (by kernel_rfl) ?_ hHeld ?_
  rotate_left 1
  · intro w hSw; (try dsimp only at hSw); go_simp; (try with_reducible rfl)
  try simp only [List.foldl_cons, List.foldl_nil, List.length_cons, List.length_nil, Act.put, List.setIfInBounds_toArray, List.set_cons_zero, List.set_cons_succ]
  refine held_skips (fuel := 2) (by kernel_rfl) (fun _ _ _ _ h => h) [(16, some 56), (17, some 57), (18, some 58), (19, some 59), (20, some 60), (21, some 61), (22, some 62), (23, some 63), (24, some 64), (25, some 65), (26, some 66)] (by kernel_rfl) hHeld ?_
  try simp only [List.foldl_cons, List.foldl_nil, List.length_cons, List.length_nil, Act.put, List.setIfInBounds_toArray, List.set_cons_zero, List.set_cons_succ]
  refine held_take 27 (some 67) (v := ?_) rfl rfl (by kernel_rfl) (by kernel_rfl) (by kernel_rfl) (fun _ _ _ _ h => h) (by kernel_rfl) ?_ hHeld ?_
  rotate_left 1
  · intro w hSw; (try dsimp only at hSw); go_simp; (try with_reducible rfl)
  try simp only [List.foldl_cons, List.foldl_nil, List.length_cons, List.length_nil, Act.put, List.setIfInBounds_toArray, List.set_cons_zero, List.set_cons_succ]
  refine held_take 28 (some 68) (v := ?_) rfl rfl (by kernel_rfl) (by kernel_rfl) (by kernel_rfl) (fun _ _ _ _ h => h) (by kernel_rfl) ?_ hHeld ?_
  rotate_left 1
  · intro w hSw; (try dsimp only at hSw); go_simp; (try with_reducible rfl)
  try simp only [List.foldl_cons, List.foldl_nil, List.length_cons, List.length_nil, Act.put, List.setIfInBounds_toArray, List.set_cons_zero, List.set_cons_succ]
  refine wpAnyH_done (by kernel_rfl) ?_ _
  go_wp2_with fail
  go_region_held3 (fun w' => w'.cell? ⟨g, o, none⟩ = some (.int .i64 (a : Int)) ∧ w'.cell? ⟨g, o + 1, none⟩ = some (.int .i64 (b : Int))) (first | with_reducible exact ⟨m0, m1⟩ | with_reducible exact ⟨cell_past _ m0, cell_past _ m1⟩ | with_reducible exact ⟨s0, s1⟩ | with_reducible exact ⟨cell_drew (cell_drew (cell_past _ hc)), cell_drew (cell_drew (cell_past _ hd))⟩ | with_reducible exact ⟨cell_drew j0, cell_drew j1⟩) (first | (go_at_call_of 31 (Value.int .i64 (a : Int)); refine (HC.out _ (by first | exact hJ.drew | go_grown)).mono ?_; rintro e w3 ⟨P2, T, x, rfl, -, -, hP, h1, h2⟩; have s0 := h2.grown.cell (show World.cell? _ ⟨g, o, none⟩ = some (.int .i64 (a : Int)) by first | with_reducible exact cell_drew (cell_drew (cell_past _ hc)) | with_reducible exact cell_drew j0) hG; have s1 := h2.grown.cell (show World.cell? _ ⟨g, o + 1, none⟩ = some (.int .i64 (b : Int)) by first | with_reducible exact cell_drew (cell_drew (cell_past _ hd)) | with_reducible exact cell_drew j1) hG; have HT := Lib.hid (And.intro h1 hP); clear h1 h2 hP) | (go_at_call_of 31 (Value.int .i64 (b : Int)); refine (HD.out _ _ HT.out.1).mono ?_; rintro e w4 ⟨P3, T2, x2, rfl, -, -, hP, h1, h2⟩; have m0 := h2.grown.cell s0 hG; have m1 := h2.grown.cell s1 hG; have HU := Lib.hid (And.intro h1 (And.intro (h2.out a (.inl b2)) hP)); clear h1 h2 hP))
  go_wp2
  go_ret
  have hs3 := HU.out.1.grown.size
  have hst := (HU.out.1.cong H1.out H5.out)
  refine ⟨_, P3, rfl, hst.below (by go_grown), Got.mk hst rfl (by simpa using hs3) ⟨_, _, block_new _ _, rfl⟩ (hst.apart (Nat.le_refl _)) (Dir.other (by rw [hxe]; rfl) (by rw [hxe]; rfl))⟩

def mbv (b : Bool) (T : TypeId) (x : Nat) : Value := match b with
  | true => .iface T (.pointer (some ⟨x, 0, none⟩))
  | false => .nilIface
@[go_sem] theorem mbv_true (T : TypeId) (x : Nat) : mbv true T x = .iface T (.pointer (some ⟨x, 0, none⟩)) := rfl
@[go_sem] theorem mbv_false (T : TypeId) (x : Nat) : mbv false T x = .nilIface := rfl

/-- An expression, or nothing. -/
def Mb (c : Ctx) (k : Nat) (b : Bool) : Prop := match b with
  | true => ex (c.E k)
  | false => (c.E k).kind = 31 ∧ sz c.E k = 1

set_option maxRecDepth 100000 in
theorem maybe_any (c : Ctx) (N : Nat) (ih : NodeTo c N) (hn : c.n ≤ 400) (w wr : World) (P P1 : Nat → Value) (lo k : Nat) (b : Bool) (hs : St c w P lo k wr P1) (hb : Bld c w P) (hlo : lo ≤ k) (hk : k < c.n) (hm : Mb c k b) (hsz : sz c.E k ≤ N) (h1 : 1 ≤ sz c.E k) :
    Calls Try.prog 60 #[.pointer (some ⟨c.bb, 0, none⟩), .int .i64 k] wr fun e w' => ∃ P2 T x, e = .returned (mbv b T x) ∧ St c w P lo (k + sz c.E k) w' P2 ∧ wr.grownBy w' (some c.pb) := by
  have c0 := hs.bld.c0
  obtain ⟨q0, -⟩ := hs.bld.t k hk
  cases b with
  | true =>
    have hx : ex (c.E k) := hm
    have HC := Lib.hid (hs.node ih hb hlo hk hx hsz h1)
    have hne : (c.E k).kind ≠ 31 := by unfold ex at hx; omega
    clear hs hb ih hm hx
    generalize (c.E k).kind = kd at *
    go_enter Try.func60, Try.ntmps60
    go_wp2_with (go_at_call 31; refine HC.out.mono ?_; rintro e w1 ⟨P2, T, x, rfl, -, -, -, h1, h2⟩; have H1 := Lib.hid (And.intro h1 h2); clear h1 h2)
    go_ret
    exact ⟨P2, T, x, rfl, H1.out.1, H1.out.2.grown⟩
  | false =>
    obtain ⟨hk31, hs1⟩ := hm
    rw [hk31] at q0
    have HS := Lib.hid hs
    clear hs hb ih
    go_enter Try.func60, Try.ntmps60
    go_wp2
    go_ret
    refine ⟨P1, 0, 0, rfl, ?_, World.grownBy.refl _ _⟩
    rw [hs1]
    exact HS.out.one (by unfold ex; omega) hlo

theorem Fit.kid4 {E : Nat → Nd} {n i a b d e : Nat} (hf : Fit E n) (hi : i < n) (hl : kids E i = [a, b, d, e]) : a = i + 1 ∧ 1 ≤ sz E a ∧ b = a + sz E a ∧ 1 ≤ sz E b ∧ d = b + sz E b ∧ 1 ≤ sz E d ∧ e = d + sz E d ∧ 1 ≤ sz E e ∧ e + sz E e = i + sz E i ∧ e < n ∧ sz E a < sz E i ∧ sz E b < sz E i ∧ sz E d < sz E i ∧ sz E e < sz E i := by
  have h := (hf.2.2 i hi).kin
  have h2 := (hf.2.2 i hi).2.1
  rw [hl] at h
  obtain ⟨rfl, h3, h4, h5⟩ := h.cons_inv
  obtain ⟨rfl, h6, h7, h8⟩ := h5.cons_inv
  obtain ⟨rfl, h9, h10, h11⟩ := h8.cons_inv
  obtain ⟨rfl, h12, h13, h14⟩ := h11.cons_inv
  have := h14.nil_inv
  exact ⟨rfl, h3, rfl, h6, rfl, h9, rfl, h12, this, by omega, by omega, by omega, by omega, by omega⟩

set_option maxRecDepth 100000 in
set_option maxHeartbeats 1600000 in
theorem sugar_slice (c : Ctx) (N i : Nat) (ih : NodeTo c N) (hf : Fit c.E c.n) (hn : c.n ≤ 400) (lv : Value) (w : World) (P : Nat → Value) (hi : i < c.n) (hs : sz c.E i ≤ N + 1) (hb : Bld c w P) (hI : IntsIn c w lv (kids c.E i)) (a b d e : Nat) (b1 b2 b3 : Bool) (hk : (c.E i).kind = 17) (hl : kids c.E i = [a, b, d, e]) (hxa : ex (c.E a)) (hmb : Mb c b b1) (hmd : Mb c d b2) (hme : Mb c e b3) :
    Calls Try.prog 48 #[.pointer (some ⟨c.bb, 0, none⟩), (c.E i).v, lv] w fun e w' => ∃ v P', e = .returned v ∧ St c w P (i + 1) (i + sz c.E i) w' P' ∧ Got c w (i + 1) (i + sz c.E i) i w' P' v := by
  obtain ⟨a1, a2, a3, a4, a5, a6, a7, a8, a9, a10, a11, a12, a13, a14⟩ := hf.kid4 hi hl
  obtain ⟨ao, cap, rfl⟩ := hI.form
  obtain ⟨g, o, rfl, hg, hc⟩ := hI.get (i := 0) (k := a) (by rw [hl]; rfl)
  obtain ⟨g', o', he, -, hbb⟩ := hI.get (i := 1) (k := b) (by rw [hl]; rfl)
  obtain ⟨rfl, rfl⟩ : g = g' ∧ o = o' := by simpa using he
  clear he
  obtain ⟨g', o', he, -, hdd⟩ := hI.get (i := 2) (k := d) (by rw [hl]; rfl)
  obtain ⟨rfl, rfl⟩ : g = g' ∧ o = o' := by simpa using he
  clear he
  obtain ⟨g', o', he, -, hee⟩ := hI.get (i := 3) (k := e) (by rw [hl]; rfl)
  obtain ⟨rfl, rfl⟩ : g = g' ∧ o = o' := by simpa using he
  clear he
  rw [Nat.add_zero] at hc
  have hlen : (kids c.E i).length = 4 := by rw [hl]; rfl
  rw [hlen]
  have hG : some g ≠ some c.pb := by simpa using hg
  have HB := Lib.hid hb
  have HC := Lib.hid (fun (w1 : World) (h1 : Below w.heap.size w w1) => ((St.refl hb a).below h1).node ih hb (Nat.le_refl _) (by omega) hxa (by omega) a2)
  have HD := Lib.hid (fun (w1 : World) (P1 : Nat → Value) (h1 : St c w P a (a + sz c.E a) w1 P1) => maybe_any c N ih hn w w1 P P1 a b b1 (h1.cong rfl a3.symm) hb (by omega) (by omega) hmb (by omega) a4)
  have HE := Lib.hid (fun (w1 : World) (P1 : Nat → Value) (h1 : St c w P a (b + sz c.E b) w1 P1) => maybe_any c N ih hn w w1 P P1 a d b2 (h1.cong rfl a5.symm) hb (by omega) (by omega) hmd (by omega) a6)
  have HF := Lib.hid (fun (w1 : World) (P1 : Nat → Value) (h1 : St c w P a (d + sz c.E d) w1 P1) => maybe_any c N ih hn w w1 P P1 a e b3 (h1.cong rfl a7.symm) hb (by omega) (by omega) hme (by omega) a8)
  have H1 := Lib.hid a1
  have H9 := Lib.hid a9
  clear hb ih hI hl a1 a3 a5 a7 a9 hmb hmd hme
  generalize hxe : c.E i = x at *
  obtain ⟨kind, op, text, flag, size⟩ := x
  simp only [Nd.v] at *
  subst hk
  cases b1 <;> cases b2 <;> cases b3
  all_goals
    go_enter Try.func48, Try.ntmps48
    go_wp2_with (first | (go_at_call 50; refine (count_any c _ _ _ _ _ _ (by omega) (by omega)).mono ?_; rintro e wc ⟨rfl, rfl⟩))
    go_region_held3 (fun w' => w'.cell? ⟨g, o, none⟩ = some (.int .i64 (a : Int)) ∧ w'.cell? ⟨g, o + 1, none⟩ = some (.int .i64 (b : Int)) ∧ w'.cell? ⟨g, o + 2, none⟩ = some (.int .i64 (d : Int)) ∧ w'.cell? ⟨g, o + 3, none⟩ = some (.int .i64 (e : Int))) (first | with_reducible exact ⟨s0, s1, s2, s3⟩ | with_reducible exact ⟨m0, m1, m2, m3⟩ | with_reducible exact ⟨n0, n1, n2, n3⟩ | with_reducible exact ⟨r0, r1, r2, r3⟩ | with_reducible exact ⟨cell_past _ r0, cell_past _ r1, cell_past _ r2, cell_past _ r3⟩ | with_reducible exact ⟨cell_drew (cell_past _ hc), cell_drew (cell_past _ hbb), cell_drew (cell_past _ hdd), cell_drew (cell_past _ hee)⟩) (first | (go_at_call 31; refine (HC.out _ (by go_grown)).mono ?_; rintro ee w3 ⟨P2, T, x, rfl, -, -, -, h1, h2⟩; have s0 := h2.grown.cell (show World.cell? _ ⟨g, o, none⟩ = some (.int .i64 (a : Int)) by with_reducible exact cell_drew (cell_past _ hc)) hG; have s1 := h2.grown.cell (show World.cell? _ ⟨g, o + 1, none⟩ = some (.int .i64 (b : Int)) by with_reducible exact cell_drew (cell_past _ hbb)) hG; have s2 := h2.grown.cell (show World.cell? _ ⟨g, o + 2, none⟩ = some (.int .i64 (d : Int)) by with_reducible exact cell_drew (cell_past _ hdd)) hG; have s3 := h2.grown.cell (show World.cell? _ ⟨g, o + 3, none⟩ = some (.int .i64 (e : Int)) by with_reducible exact cell_drew (cell_past _ hee)) hG; have HT := Lib.hid h1; clear h1 h2) | (go_at_call_of 60 (Value.int .i64 (b : Int)); refine (HD.out _ _ HT.out).mono ?_; rintro ee wwm ⟨Pm, Tm, xm, rfl, h1, h2⟩; have m0 := h2.cell s0 hG; have m1 := h2.cell s1 hG; have m2 := h2.cell s2 hG; have m3 := h2.cell s3 hG; have HU := Lib.hid h1; clear h1 h2) | (go_at_call_of 60 (Value.int .i64 (d : Int)); refine (HE.out _ _ HU.out).mono ?_; rintro ee wwn ⟨Pn, Tn, xn, rfl, h1, h2⟩; have n0 := h2.cell m0 hG; have n1 := h2.cell m1 hG; have n2 := h2.cell m2 hG; have n3 := h2.cell m3 hG; have HV := Lib.hid h1; clear h1 h2) | (go_at_call_of 60 (Value.int .i64 (e : Int)); refine (HF.out _ _ HV.out).mono ?_; rintro ee wwr ⟨Pr, Tr, xr, rfl, h1, h2⟩; have r0 := h2.cell n0 hG; have r1 := h2.cell n1 hG; have r2 := h2.cell n2 hG; have r3 := h2.cell n3 hG; have HW := Lib.hid h1; clear h1 h2))
    go_wp2
    go_ret
    have hst := (HW.out.cong H1.out H9.out)
    have hs3 := hst.grown.size
    exact ⟨_, Pr, rfl, hst.below (by go_grown), Got.mk hst rfl hs3 ⟨_, _, block_new _ _, rfl⟩ (hst.apart (Nat.le_refl _)) (Dir.other (by rw [hxe]; rfl) (by rw [hxe]; rfl))⟩
end Go.Proofs.Ytkpfbgeaodopoaa.fnDirect
