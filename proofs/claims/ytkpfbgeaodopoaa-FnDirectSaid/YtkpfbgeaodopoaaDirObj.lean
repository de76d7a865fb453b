/-
  FnDirect: the builder's objects and object comprehensions.
-/
import Derived.Test.YtkpfbgeaodopoaaDirMemb
import Derived.Test.YtkpfbgeaodopoaaDirSpec
import Derived.Test.YtkpfbgeaodopoaaDirCond
namespace Go.Proofs.Ytkpfbgeaodopoaa.fnDirect
open Go.RowKit
set_option linter.unusedSimpArgs false
set_option linter.unusedVariables false

/-- Its end. -/
theorem IntsIn.drop {c : Ctx} {w : World} {g o n cap : Nat} {l l' : List Nat} (h : IntsIn c w (.slice (some ⟨g, o, none⟩) n cap) (l ++ l')) : IntsIn c w (.slice (some ⟨g, o + l.length, none⟩) ((l ++ l').length - l.length) (cap - l.length)) l' := by
  obtain ⟨ao', cap', h1, h2, h3, h4⟩ := h
  cases h1
  rw [List.length_append] at h2 ⊢
  refine ⟨_, _, by rw [Nat.add_sub_cancel_left], by omega, by omega, ?_⟩
  rcases h4 with h4 | ⟨g', o', h5, h6, h7⟩
  · exact .inl (List.append_eq_nil_iff.1 h4).2
  · cases h5
    refine .inr ⟨g, o + l.length, rfl, h6, fun i k hi => ?_⟩
    have := h7 (l.length + i) k (by rw [List.getElem?_append_right (by omega), Nat.add_sub_cancel_left]; exact hi)
    rwa [← Nat.add_assoc] at this


set_option maxRecDepth 100000 in
set_option maxHeartbeats 1600000 in
theorem sugar_object (c : Ctx) (N i : Nat) (ih : NodeTo c N) (hf : Fit c.E c.n) (hS : ∀ i, i < c.n → Shape c.E (c.E i) (kids c.E i)) (hn : c.n ≤ 400) (lv : Value) (w : World) (P : Nat → Value) (hi : i < c.n) (hs : sz c.E i ≤ N + 1) (hb : Bld c w P) (hI : IntsIn c w lv (kids c.E i)) (hk : (c.E i).kind = 13) (hm : ∀ k ∈ kids c.E i, Mem c k) :
    Calls Try.prog 48 #[.pointer (some ⟨c.bb, 0, none⟩), (c.E i).v, lv] w fun e w' => ∃ v P', e = .returned v ∧ St c w P (i + 1) (i + sz c.E i) w' P' ∧ Got c w (i + 1) (i + sz c.E i) i w' P' v := by
  have hfi := hf.2.2 i hi
  obtain ⟨ao, cap, rfl⟩ := hI.form
  have HB := Lib.hid hb
  have HC := Lib.hid (fun (w1 : World) (h1 : Below w.heap.size w w1) => members_any c N ih hf hS hn (kids c.E i) (i + 1) (i + sz c.E i) _ w1 P hfi.kin hfi.2.1 hm (fun k hk => by have := hfi.kin.mem hk; omega) (hb.below h1) (hI.below h1))
  clear hb ih hI hm hS
  generalize hxe : c.E i = x at *
  obtain ⟨kind, op, text, flag, size⟩ := x
  simp only [Nd.v] at *
  subst hk
  go_enter Try.func48, Try.ntmps48
  go_wp2_with (go_at_call 63; refine (HC.out _ (by go_grown)).mono ?_; rintro e w3 ⟨ao3, n3, cap3, P2, rfl, h1⟩; have HT := Lib.hid h1; clear h1)
  go_ret
  have hst := HT.out.from_below (w := w) (by go_grown)
  have hs3 := hst.grown.size
  refine ⟨_, P2, rfl, hst.below (by go_grown), Got.mk hst rfl (by simpa using hs3) ⟨_, _, block_new _ _, rfl⟩ (hst.apart (Nat.le_refl _)) (Dir.other (by rw [hxe]; rfl) (by rw [hxe]; rfl))⟩

set_option maxRecDepth 100000 in
set_option maxHeartbeats 3200000 in
theorem objcomp_any (c : Ctx) (N i : Nat) (ih : NodeTo c N) (hf : Fit c.E c.n) (hS : ∀ i, i < c.n → Shape c.E (c.E i) (kids c.E i)) (hn : c.n ≤ 400) (lv : Value) (w : World) (P : Nat → Value) (hi : i < c.n) (hs : sz c.E i ≤ N + 1) (hb : Bld c w P) (hI : IntsIn c w lv (kids c.E i)) (l1 l2 l2' : List Nat) (f : Nat) (hl : kids c.E i = (l1 ++ f :: l2) ++ l2') (h35 : (c.E f).kind = 35) (hfl : (c.E f).flag = 2) (hop : (c.E f).op = 0) (h1 : ∀ k ∈ l1, (c.E k).kind = 36) (h2 : ∀ k ∈ l2, (c.E k).kind = 36) (hsp : Specs c.E l2') (hkd : ∀ k ∈ l2', Spc c.E k) (hm : ∀ k ∈ l1 ++ f :: l2, Mem c k) :
    Calls Try.prog 64 #[.pointer (some ⟨c.bb, 0, none⟩), lv] w fun e w' => ∃ x P', e = .returned (.iface 116 (.pointer (some ⟨x, 0, none⟩))) ∧ w.heap.size ≤ x ∧ NodeAt w' x ∧ St c w P (i + 1) (i + sz c.E i) w' P' ∧ Apart c x (i + 1) (i + sz c.E i) P' := by
  have hfi := hf.2.2 i hi
  have hcn := hfi.2.1
  have hkin := hfi.kin
  rw [hl] at hkin
  obtain ⟨mid, hk1, hk2⟩ := hkin.split
  have hle1 := hk1.le
  have hle2 := hk2.le
  have hkl := hkin.len
  obtain ⟨ao, cap, rfl⟩ := hI.form
  have hcap := hI.cap
  rw [hl] at hI hcap ⊢
  have hsp' := hsp
  obtain ⟨sp0, ls, hls, hsp38, -⟩ := hsp'
  obtain ⟨g, o, rfl, hg, -⟩ := hI.get (i := l1.length) (k := f) (by simp)
  obtain ⟨n1, hn1⟩ : ∃ n, n = l1.length := ⟨_, rfl⟩
  obtain ⟨n2, hn2⟩ : ∃ n, n = (l1 ++ f :: l2).length := ⟨_, rfl⟩
  obtain ⟨n3, hn3⟩ : ∃ n, n = ((l1 ++ f :: l2) ++ l2').length := ⟨_, rfl⟩
  have hn12 : n1 < n2 := by rw [hn1, hn2]; simp
  have hn23 : n2 < n3 := by rw [hn2, hn3, hls]; simp
  have hkd1 : ∀ j, j < n2 → j ≠ n1 → ∃ k, ((l1 ++ f :: l2) ++ l2')[j]? = some k ∧ k < c.n ∧ (c.E k).kind = 36 := by
    intro j hj hjn
    obtain ⟨k, hk⟩ : ∃ k, (l1 ++ f :: l2)[j]? = some k := ⟨_, List.getElem?_eq_getElem (by rw [← hn2]; exact hj)⟩
    refine ⟨k, by rw [List.getElem?_append_left (by rw [← hn2]; exact hj)]; exact hk, by have := hk1.get hk; omega, ?_⟩
    by_cases hj1 : j < n1
    · rw [List.getElem?_append_left (by rw [← hn1]; exact hj1)] at hk
      exact h1 k (List.mem_of_getElem? hk)
    · rw [List.getElem?_append_right (by omega)] at hk
      obtain ⟨q, hq⟩ : ∃ q, j - l1.length = q + 1 := ⟨j - l1.length - 1, by omega⟩
      rw [hq] at hk
      exact h2 k (List.mem_of_getElem? (by simpa using hk))
  have hkf : ((l1 ++ f :: l2) ++ l2')[n1]? = some f := by rw [hn1]; simp
  have hfn : f < c.n := by
    have h := hk1.get (j := l1.length) (k := f) (by simp)
    omega
  have hks : ((l1 ++ f :: l2) ++ l2')[n2]? = some sp0 := by rw [hn2, List.getElem?_append_right (Nat.le_refl _), hls]; simp
  have hsn : sp0 < c.n := by
    have h := hk2.get (j := 0) (k := sp0) (by rw [hls]; rfl)
    omega
  have HB := Lib.hid hb
  have HI := Lib.hid hI
  have HKD := Lib.hid hkd1
  have HKF := Lib.hid hkf
  have HKS := Lib.hid hks
  have H35 := Lib.hid (And.intro h35 (And.intro hfl hop))
  have H38 := Lib.hid hsp38
  have HC := Lib.hid (fun (w1 : World) (P1 : Nat → Value) (hb1 : Bld c w1 P1) (hi1 : IntsIn c w1 (.slice (some ⟨g, o, none⟩) n2 cap) (l1 ++ f :: l2)) => members_any c N ih hf hS hn (l1 ++ f :: l2) (i + 1) mid (.slice (some ⟨g, o, none⟩) n2 cap) w1 P1 hk1 (by omega) hm (fun k hk => by have := hk1.mem hk; omega) hb1 hi1)
  have HD := Lib.hid (fun (lv : Value) (w1 : World) (P1 : Nat → Value) (hb1 : Bld c w1 P1) (hi1 : IntsIn c w1 lv l2') => specs_any c N ih hf hn l2' mid (i + sz c.E i) lv w1 P1 hk2 hcn hsp hkd (fun k h1 h2 => by omega) hb1 hi1)
  have hG : some g ≠ some c.pb := by simpa using hg
  rw [← hn3]
  have hcl : n3 ≤ cap := by rw [hn3]; exact hcap.1
  have hmax := hcap.2
  have hn400 : n3 ≤ 400 := by rw [hn3]; omega
  have HE2 := Lib.hid hn2
  have HE3 := Lib.hid hn3
  clear hb ih hI hl hf hfi hkin hcap hkd1 hkf hks h35 hfl hop h1 h2 hsp38 hsp hkd hm hS hn1 hn2 hn3
  go_enter Try.func64, Try.ntmps64
  go_wp2_with fail
  go_loopw [5, 6] (fun v u wr => ∃ m : Nat, v = .int .i64 m ∧ u = .int .i64 (if m ≤ n1 then 0 else 1) ∧ m ≤ n2 ∧ Below w.heap.size w wr) (fun v _ _ => n2 - (intOf v).toNat)
  case atStart => exact ⟨0, rfl, rfl, Nat.zero_le _, Below.refl _ _⟩
  case round =>
    obtain ⟨m, rfl, rfl, hmn, hbel⟩ := hrel
    have HBr := Lib.hid (HB.out.below hbel)
    have HIr := Lib.hid (HI.out.below hbel)
    have hsr := hbel.size
    by_cases hlt : m < n2
    · by_cases hmn1 : m = n1
      · subst hmn1
        obtain ⟨g', o', he, -, hc⟩ := HIr.out.get (i := m) (k := f) HKF.out
        obtain ⟨rfl, rfl⟩ : g = g' ∧ o = o' := by simpa using he
        have c0 := HBr.out.c0
        obtain ⟨q0, q1, q2, q3, q4⟩ := HBr.out.t f hfn
        rw [H35.out.1] at q0
        rw [H35.out.2.1] at q3
        rw [H35.out.2.2] at q1
        have t6 : bits BinOp.andNot IntKind.i64 2 4 = 2 := by kernel_rfl
        have HIS : Hid (decide ((c.E f).kind = 38 ∨ (c.E f).kind = 39) = false) := Lib.hid (by rw [H35.out.1]; rfl)
        rw [if_pos (Nat.le_refl _)]
        have hmn3 : (m : Int) < n3 := by omega
        go_wp2_with (go_at_call 67; refine (isSpec_any c f _ P HBr.out hfn hn).mono ?_; rintro e wc ⟨rfl, rfl⟩; rw [HIS.out])
        go_region_held3 (fun w' => w'.cell? ⟨c.bb, 0, none⟩ = some (.slice (some c.a) c.n c.cap) ∧ w'.cell? (c.a.add (f * 5)) = some (.int .i64 35) ∧ w'.cell? ⟨(c.a.add (f * 5)).block, (c.a.add (f * 5)).off + 1, none⟩ = some (.int .i64 0) ∧ w'.cell? ⟨(c.a.add (f * 5)).block, (c.a.add (f * 5)).off + 2, none⟩ = some (.string (c.E f).text) ∧ w'.cell? ⟨(c.a.add (f * 5)).block, (c.a.add (f * 5)).off + 3, none⟩ = some (.int .i64 2) ∧ w'.cell? ⟨(c.a.add (f * 5)).block, (c.a.add (f * 5)).off + 4, none⟩ = some (.int .i64 (c.E f).size) ∧ w'.cell? ⟨g, o + m, none⟩ = some (.int .i64 (f : Int))) (first | with_reducible exact ⟨c0, q0, q1, q2, q3, q4, hc⟩ | with_reducible exact ⟨cell_drew c0, cell_drew q0, cell_drew q1, cell_drew q2, cell_drew q3, cell_drew q4, cell_drew hc⟩ | with_reducible exact ⟨cell_drew (cell_past _ c0), cell_drew (cell_past _ q0), cell_drew (cell_past _ q1), cell_drew (cell_past _ q2), cell_drew (cell_past _ q3), cell_drew (cell_past _ q4), cell_drew (cell_past _ hc)⟩ | with_reducible exact ⟨cell_past _ c0, cell_past _ q0, cell_past _ q1, cell_past _ q2, cell_past _ q3, cell_past _ q4, cell_past _ hc⟩) (fail)
        go_wp2
        go_roundw
        case rel => exact ⟨m + 1, by go_num, by rw [if_neg (by omega)], by omega, by go_grown⟩
        case measure => first | (simp [intOf]; done) | (simp [intOf]; omega)
      · obtain ⟨k, hk, hkn, hk36⟩ := HKD.out m hlt hmn1
        obtain ⟨g', o', he, -, hc⟩ := HIr.out.get (i := m) (k := k) hk
        obtain ⟨rfl, rfl⟩ : g = g' ∧ o = o' := by simpa using he
        have c0 := HBr.out.c0
        obtain ⟨q0, q1, q2, q3, q4⟩ := HBr.out.t k hkn
        rw [hk36] at q0
        have HIS : Hid (decide ((c.E k).kind = 38 ∨ (c.E k).kind = 39) = false) := Lib.hid (by rw [hk36]; rfl)
        obtain ⟨u0, hu0⟩ : ∃ u : Int, (if m ≤ n1 then 0 else 1) = u := ⟨_, rfl⟩
        have HU : Hid ((if m + 1 ≤ n1 then 0 else 1) = u0) := Lib.hid (by rw [← hu0]; by_cases h : m ≤ n1; rw [if_pos h, if_pos (by omega)]; rw [if_neg h, if_neg (by omega)])
        rw [hu0]
        clear hk36 hu0
        have hmn3 : (m : Int) < n3 := by omega
        go_wp2_with (go_at_call 67; refine (isSpec_any c k _ P HBr.out hkn hn).mono ?_; rintro e wc ⟨rfl, rfl⟩; rw [HIS.out])
        go_region_held3 (fun w' => w'.cell? ⟨c.bb, 0, none⟩ = some (.slice (some c.a) c.n c.cap) ∧ w'.cell? (c.a.add (k * 5)) = some (.int .i64 36) ∧ w'.cell? ⟨(c.a.add (k * 5)).block, (c.a.add (k * 5)).off + 1, none⟩ = some (.int .i64 (c.E k).op) ∧ w'.cell? ⟨(c.a.add (k * 5)).block, (c.a.add (k * 5)).off + 2, none⟩ = some (.string (c.E k).text) ∧ w'.cell? ⟨(c.a.add (k * 5)).block, (c.a.add (k * 5)).off + 3, none⟩ = some (.int .i64 (c.E k).flag) ∧ w'.cell? ⟨(c.a.add (k * 5)).block, (c.a.add (k * 5)).off + 4, none⟩ = some (.int .i64 (c.E k).size) ∧ w'.cell? ⟨g, o + m, none⟩ = some (.int .i64 (k : Int))) (first | with_reducible exact ⟨c0, q0, q1, q2, q3, q4, hc⟩ | with_reducible exact ⟨cell_drew c0, cell_drew q0, cell_drew q1, cell_drew q2, cell_drew q3, cell_drew q4, cell_drew hc⟩ | with_reducible exact ⟨cell_drew (cell_past _ c0), cell_drew (cell_past _ q0), cell_drew (cell_past _ q1), cell_drew (cell_past _ q2), cell_drew (cell_past _ q3), cell_drew (cell_past _ q4), cell_drew (cell_past _ hc)⟩ | with_reducible exact ⟨cell_past _ c0, cell_past _ q0, cell_past _ q1, cell_past _ q2, cell_past _ q3, cell_past _ q4, cell_past _ hc⟩) (fail)
        go_wp2
        go_roundw
        case rel => exact ⟨m + 1, by go_num, by rw [HU.out], by omega, by go_grown⟩
        case measure => first | (simp [intOf]; done) | (simp [intOf]; omega)
    · obtain rfl : m = n2 := by omega
      have hif : ¬ m ≤ n1 := by omega
      rw [if_neg hif]
      obtain ⟨g', o', he, -, hc⟩ := HIr.out.get (i := m) (k := sp0) HKS.out
      obtain ⟨rfl, rfl⟩ : g = g' ∧ o = o' := by simpa using he
      have HIS : Hid (decide ((c.E sp0).kind = 38 ∨ (c.E sp0).kind = 39) = true) := Lib.hid (by rw [H38.out]; rfl)
      have hmn3 : (m : Int) < n3 := by omega
      have hmc : (m : Int) ≤ cap := by omega
      have hmn3' : m < n3 := by omega
      have hcm : ¬ cap = m := by omega
      have hm0 : (0 : Int) ≤ (m : Int) := by omega
      have hmc' : (m : Int) ≤ n3 := by omega
      have HL1 : Hid (IntsIn c wr.drew (.slice (some ⟨g, o, none⟩) m cap) (l1 ++ f :: l2)) := Lib.hid (by
        have h := HIr.out
        rw [← HE3.out] at h
        have h2 := h.left
        rw [← HE2.out] at h2
        exact h2.below ((Below.refl _ _).drew))
      have HR1 : Hid (IntsIn c wr.drew (.slice (some ⟨g, o + m, none⟩) (n3 - m) (cap - m)) l2') := Lib.hid (by
        have h := HIr.out.below (w' := wr.drew) ((Below.refl _ _).drew)
        have h2 := h.drop
        rw [← HE2.out, ← HE3.out] at h2
        exact h2)
      go_wp2_with (go_at_call 67; refine (isSpec_any c sp0 _ P HBr.out hsn hn).mono ?_; rintro e wc ⟨rfl, rfl⟩; rw [HIS.out])
      go_region_with (first | (go_at_call 63; refine (HC.out _ _ HBr.out.drew HL1.out).mono ?_; rintro e w3 ⟨ao3, n3', cap3, P2, rfl, h1⟩; have HT := Lib.hid h1; clear h1) | (go_at_call 62; refine (HD.out _ _ _ HT.out.bld (HR1.out.st HT.out)).mono ?_; rintro e w4 ⟨v, ou, T5, y5, nm5, P3, rfl, ⟨ao5, n5, cap5, rfl⟩, h1⟩; have HU := Lib.hid h1; clear h1))
      all_goals
        go_wp2
        go_ret
        have hst := (HT.out.seq HU.out hle1 hle2 HBr.out.drew).from_below (w := w) hbel.drew
        exact ⟨w4.heap.size, P3, rfl, hst.grown.size, ⟨_, _, block_new _ _, rfl⟩, hst.below (by go_grown), hst.apart (Nat.le_refl _)⟩

set_option maxRecDepth 100000 in
set_option maxHeartbeats 1600000 in
theorem sugar_objcomp (c : Ctx) (N i : Nat) (ih : NodeTo c N) (hf : Fit c.E c.n) (hS : ∀ i, i < c.n → Shape c.E (c.E i) (kids c.E i)) (hn : c.n ≤ 400) (lv : Value) (w : World) (P : Nat → Value) (hi : i < c.n) (hs : sz c.E i ≤ N + 1) (hb : Bld c w P) (hI : IntsIn c w lv (kids c.E i)) (hk : (c.E i).kind = 14) (l1 l2 l2' : List Nat) (f : Nat) (hl : kids c.E i = (l1 ++ f :: l2) ++ l2') (h35 : (c.E f).kind = 35) (hfl : (c.E f).flag = 2) (hop : (c.E f).op = 0) (h1 : ∀ k ∈ l1, (c.E k).kind = 36) (h2 : ∀ k ∈ l2, (c.E k).kind = 36) (hsp : Specs c.E l2') (hkd : ∀ k ∈ l2', Spc c.E k) (hm : ∀ k ∈ l1 ++ f :: l2, Mem c k) :
    Calls Try.prog 48 #[.pointer (some ⟨c.bb, 0, none⟩), (c.E i).v, lv] w fun e w' => ∃ v P', e = .returned v ∧ St c w P (i + 1) (i + sz c.E i) w' P' ∧ Got c w (i + 1) (i + sz c.E i) i w' P' v := by
  have HC := Lib.hid (fun (w1 : World) (h3 : Below w.heap.size w w1) => objcomp_any c N i ih hf hS hn lv w1 P hi hs (hb.below h3) (hI.below h3) l1 l2 l2' f hl h35 hfl hop h1 h2 hsp hkd hm)
  obtain ⟨ao, cap, rfl⟩ := hI.form
  clear hb ih hI hl hf h1 h2 h35 hfl hop hsp hkd hm hS
  generalize hxe : c.E i = x at *
  obtain ⟨kind, op, text, flag, size⟩ := x
  simp only [Nd.v] at *
  subst hk
  go_enter Try.func48, Try.ntmps48
  go_wp2_with (go_at_call 64; refine (HC.out _ (by go_grown)).mono ?_; rintro e w3 ⟨x, P2, rfl, hx1, hx2, h1, hap⟩; have HT := Lib.hid (And.intro h1 hap); clear h1 hap)
  go_ret
  have hst := HT.out.1.from_below (w := w) (by go_grown)
  exact ⟨_, P2, rfl, hst, Got.mk hst rfl (by simp at hx1; omega) hx2 HT.out.2 (Dir.other (by rw [hxe]; rfl) (by rw [hxe]; rfl))⟩
end Go.Proofs.Ytkpfbgeaodopoaa.fnDirect
