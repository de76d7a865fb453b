/-
  FnStackScope: the stack's methods that take frames away, or look a variable up.
-/
import Derived.Test.YtbdadgkjiondgaaStkMeth
import Derived.IntWalk
namespace Go.Proofs.Ytbdadgkjiondgaa.fnStackScope
open Go.RowKit Go.Maps Go.WideMaps
set_option linter.unusedSimpArgs false
set_option linter.unusedVariables false

/-- The first elements of a row. -/
theorem own_take {w : World} {B g cap n m : Nat} {e : TypeId} {xs : List Value} (h : w.ownsRow B e 1 (.slice (some ⟨g, 0, none⟩) n cap) n xs) (hm : m ≤ n) : w.ownsRow B e 1 (.slice (some ⟨g, 0, none⟩) m cap) m (xs.take m) := by
  obtain ⟨h1, h2⟩ := h
  refine ⟨by rw [List.length_take, h1]; omega, ?_⟩
  rcases h2 with ⟨h0, -⟩ | ⟨g', cap', cur, hv, hg, hh, hn, hcap, hsz, htake⟩
  · cases h0
  · cases hv
    refine .inr ⟨g, cap, cur, rfl, hg, hh, by omega, hcap, hsz, ?_⟩
    rw [← htake, List.take_take]
    congr 1
    omega

theorem Part.take {B sb : Nat} {w W : World} {C : Array Value} {g cap : Nat} {ps : List Nat} {S : List Fr} (h : Part B sb w W C (.slice (some ⟨g, 0, none⟩) S.length cap) ps S) {m : Nat} (hm : m ≤ S.length) : Part B sb w W C (.slice (some ⟨g, 0, none⟩) m cap) (ps.take m) (S.take m) := by
  have hl : (S.take m).length = m := by rw [List.length_take]; omega
  refine ⟨h.blk, h.turned, ?_, ⟨?_, fun i p f hp hf => ?_⟩, h.le⟩
  · rw [hl, List.map_take]
    exact own_take h.row hm
  · rw [hl, List.length_take, h.frames.1]; omega
  · rw [List.getElem?_take] at hp hf
    split at hp
    · rename_i hi
      rw [if_pos hi] at hf
      exact h.frames.2 i p f hp hf
    · cases hp

/-- The stack's row, where there are frames. -/
theorem Part.form {B sb : Nat} {w W : World} {C : Array Value} {v : Value} {ps : List Nat} {S : List Fr} (h : Part B sb w W C v ps S) (hS : 0 < S.length) : ∃ g cap, v = .slice (some ⟨g, 0, none⟩) S.length cap ∧ S.length ≤ cap ∧ cap ≤ maxLen := by
  rcases own_form h.row with ⟨-, h0⟩ | ⟨g, cap, rfl, h1, h2, h3, h4⟩
  · omega
  · exact ⟨g, cap, rfl, h3, h4⟩

/-- A frame's cells. -/
theorem Part.frame {B sb : Nat} {w W : World} {C : Array Value} {g cap : Nat} {ps : List Nat} {S : List Fr} (h : Part B sb w W C (.slice (some ⟨g, 0, none⟩) S.length cap) ps S) {i : Nat} {f : Fr} (hf : S[i]? = some f) :
    ∃ (p b n : Nat) (l c : Option Addr), W.cell? ⟨g, i, none⟩ = some (.pointer (some ⟨p, 0, none⟩)) ∧ W.cell? ⟨p, 0, none⟩ = some (.pointer l) ∧ W.cell? ⟨p, 1, none⟩ = some (.pointer c) ∧ W.cell? ⟨p, 2, none⟩ = some (.map (some b)) ∧ W.cell? ⟨p, 5, none⟩ = some (.bool f.clean) ∧ W.cell? ⟨p, 6, none⟩ = some (.bool f.trim) ∧ MapIn W b n f.names f.val := by
  obtain ⟨hlen, hfr⟩ := h.frames
  have hi : i < S.length := (List.getElem?_eq_some_iff.1 hf).1
  obtain ⟨p, hp⟩ : ∃ p, ps[i]? = some p := ⟨ps[i], List.getElem?_eq_getElem (by omega)⟩
  obtain ⟨C', b, n, l, c, h1, h2, h3, h4, h5, h6, h7⟩ := hfr i p f hp hf
  refine ⟨p, b, n, l, c, ?_, cell_of_block h1 h2, cell_of_block h1 h3, cell_of_block h1 h4, cell_of_block h1 h5, cell_of_block h1 h6, h7⟩
  have := World.ownsRow.cellAt h.row i (by omega)
  exact this.trans (by rw [List.getElem?_map, hp]; rfl)

@[go_sem] theorem zero_map_ok (w : World) : (zeroValue 69).run Try.prog w = .ok (.pointer none) w := zeroT w

set_option maxRecDepth 100000 in
set_option maxHeartbeats 800000 in
theorem lookup_any (B sb : Nat) (S : List Fr) (l c : Option Addr) (v : Value) (s : ByteArray) (w : World) (h : StkIn w B sb S l c v) (hs : (s.size : Int) ≤ 2147483647) (hS : S.length ≤ 1000000) :
    Calls Try.prog 23 #[.pointer (some ⟨sb, 0, none⟩), .string s] w
    fun e w' => ((look S s S.length = none ∧ e = .returned (.pointer none)) ∨ ∃ k p, look S s S.length = some k ∧ e = .returned (.pointer (some ⟨p, 0, none⟩)) ∧ ThunkAt w p k) ∧ w = w' := by
  obtain ⟨calls, lim, ps, hP⟩ := h.part
  clear h
  have c2 : w.cell? ⟨sb, 2, none⟩ = some v := hP.cell rfl
  obtain ⟨ao, cp, rfl⟩ := owns_slice hP.row
  have HP := Lib.hid hP
  clear hP
  have hkey : keyOf Try.prog 71 (.string s) = some (.string s.data.toList) := keyOf_string_mk Try.underlying71 (by unfold maxLen; omega)
  go_enter Try.func23, Try.ntmps23
  go_wp2
  go_loop [5] (fun i => ∃ k : Nat, k ≤ S.length ∧ i = .int .i64 ((k : Int) - 1) ∧ Hid (look S s S.length = look S s k)) (fun i => (intOf i + 1).toNat)
  case atStart => exact ⟨S.length, Nat.le_refl _, by go_num, Lib.hid rfl⟩
  case round =>
    obtain ⟨k, hk, rfl, HL⟩ := hrel
    cases k with
    | zero =>
      go_wp2
      go_ret
      refine ⟨.inl ⟨?_, rfl⟩, rfl⟩
      rw [HL.out]
      rfl
    | succ k =>
      obtain ⟨f, hf⟩ : ∃ f, S[k]? = some f := ⟨S[k], List.getElem?_eq_getElem (by omega)⟩
      have hlk : look S s (k + 1) = if s ∈ f.names then some f.val else if f.clean = true then none else look S s k := by
        rw [look, hf]
      obtain ⟨g, cap, hv, h1, h2⟩ := HP.out.form (by omega)
      cases hv
      obtain ⟨p, b, n, l', c', d0, d1, d2, d3, d4, d5, hm⟩ := HP.out.frame hf
      have HM := Lib.hid hm
      have HK := Lib.hid hlk
      clear hm hlk
      by_cases hsn : s ∈ f.names
      · have hh : Maps.has (setD f.names) (.string s.data.toList) = true := by rw [has_set]; exact decide_eq_true hsn
        have hat := at_list f.names s (.lit (.bool false))
        rw [if_pos hsn] at hat
        have HK2 : Hid (look S s S.length = some f.val) := Lib.hid (by rw [HL.out, HK.out, if_pos hsn])
        clear HK HL hsn
        go_wp2_with (first | (at_lookup; refine wpList_lookup_own_ok _ rfl (.tmp 29) (.tmp 30) 58 rfl 71 69 law Try.underlying58 _ (zeroT _) (.lit (.bool false)) [] (tv_nil _ _) b n _ rfl HM.out _ _ rfl hkey ?_; intro v0 ps0 hv0; rw [hat] at hv0; rw [hh]; have HV := Lib.hid hv0; clear hv0))
        go_ret
        obtain ⟨q, rfl, hq⟩ := tv_true HV.out
        exact ⟨.inr ⟨f.val, HK2.out, q, rfl, hq⟩, rfl⟩
      · have hh : Maps.has (setD f.names) (.string s.data.toList) = false := by rw [has_set]; exact decide_eq_false hsn
        cases hcl : f.clean with
        | true =>
          have HK2 : Hid (look S s S.length = none) := Lib.hid (by rw [HL.out, HK.out, if_neg hsn, if_pos hcl])
          rw [hcl] at d4
          clear HK HL hsn
          go_wp2_with (first | (at_lookup; refine wpList_lookup_own_ok _ rfl (.tmp 29) (.tmp 30) 58 rfl 71 69 law Try.underlying58 _ (zeroT _) (.lit (.bool false)) [] (tv_nil _ _) b n _ rfl HM.out _ _ rfl hkey ?_; intro v0 ps0 hv0; rw [hh]; clear hv0))
          go_ret
          exact ⟨.inl ⟨HK2.out, rfl⟩, rfl⟩
        | false =>
          have HK2 : Hid (look S s S.length = look S s k) := Lib.hid (by rw [HL.out, HK.out, if_neg hsn, if_neg (by rw [hcl]; simp)])
          rw [hcl] at d4
          clear HK HL hsn
          go_wp2_with (first | (at_lookup; refine wpList_lookup_own_ok _ rfl (.tmp 29) (.tmp 30) 58 rfl 71 69 law Try.underlying58 _ (zeroT _) (.lit (.bool false)) [] (tv_nil _ _) b n _ rfl HM.out _ _ rfl hkey ?_; intro v0 ps0 hv0; rw [hh]; clear hv0))
          go_round
          case rel => exact ⟨k, by omega, by go_num, HK2⟩
          case measure => first | (simp [intOf]; done) | (simp [intOf]; omega)

set_option maxRecDepth 100000 in
set_option maxHeartbeats 800000 in
theorem trim_any (B sb : Nat) (S : List Fr) (l c : Option Addr) (v : Value) (w : World) (h : StkIn w B sb S l c v) (hS : S.length ≤ 1000000) :
    Calls Try.prog 22 #[.pointer (some ⟨sb, 0, none⟩)] w
    fun e w' => e = .returned (.tuple #[]) ∧ (∃ v', StkIn w' B sb (cut S S.length) l c v') ∧ Turned badS B w w' := by
  obtain ⟨calls, lim, ps, hP⟩ := h.part
  clear h
  have c2 : w.cell? ⟨sb, 2, none⟩ = some v := hP.cell rfl
  have c3 : w.cell? ⟨sb, 3, none⟩ = some (.int .i64 calls) := hP.cell rfl
  have e2 := hP.free 2
  have e3 := hP.free 3
  obtain ⟨ao, cp, rfl⟩ := owns_slice hP.row
  have HP := Lib.hid hP
  clear hP
  go_enter Try.func22, Try.ntmps22
  go_wp2
  go_loop [2] (fun i => ∃ k : Nat, k ≤ S.length ∧ i = .int .i64 ((k : Int) - 1) ∧ Hid (cut S S.length = cut S k)) (fun i => (intOf i + 1).toNat)
  case atStart => exact ⟨S.length, Nat.le_refl _, by go_num, Lib.hid rfl⟩
  case round =>
    obtain ⟨k, hk, rfl, HL⟩ := hrel
    cases k with
    | zero =>
      go_wp2
      go_end0
      refine ⟨rfl, ⟨.slice ao S.length cp, ?_⟩, HP.out.turned⟩
      rw [HL.out]
      exact HP.out.stk
    | succ k =>
      obtain ⟨f, hf⟩ : ∃ f, S[k]? = some f := ⟨S[k], List.getElem?_eq_getElem (by omega)⟩
      have hlk : cut S (k + 1) = if f.clean = true then (if f.trim = true then S.take k else S) else cut S k := by
        rw [cut, hf]
      obtain ⟨g, cap, hv, h1, h2⟩ := HP.out.form (by omega)
      cases hv
      obtain ⟨p, b, n, l', c', d0, d1, d2, d3, d4, d5, -⟩ := HP.out.frame hf
      have HK := Lib.hid hlk
      clear hlk
      cases hcl : f.clean with
      | true =>
        rw [hcl] at d4
        cases htr : f.trim with
        | true =>
          have HK2 : Hid (cut S S.length = S.take k) := Lib.hid (by rw [HL.out, HK.out, if_pos hcl, if_pos htr])
          rw [htr] at d5
          clear HK HL
          go_wp2
          go_returns
          have HP5 := ((HP.out.take (show k ≤ S.length by omega)).set 2 (.slice (some ⟨g, 0, none⟩) k cp)).set 3 (.int .i64 (wrap64 (calls - 1)))
          simp at HP5
          refine ⟨rfl, ⟨.slice (some ⟨g, 0, none⟩) k cp, ?_⟩, HP5.turned⟩
          rw [HK2.out]
          exact HP5.stk
        | false =>
          have HK2 : Hid (cut S S.length = S) := Lib.hid (by rw [HL.out, HK.out, if_pos hcl, if_neg (by rw [htr]; simp)])
          rw [htr] at d5
          clear HK HL
          go_wp2
          go_returns
          refine ⟨rfl, ⟨.slice (some ⟨g, 0, none⟩) S.length cp, ?_⟩, HP.out.turned⟩
          rw [HK2.out]
          exact HP.out.stk
      | false =>
        have HK2 : Hid (cut S S.length = cut S k) := Lib.hid (by rw [HL.out, HK.out, if_neg (by rw [hcl]; simp)])
        rw [hcl] at d4
        clear HK HL
        go_wp2
        go_round
        case rel => exact ⟨k, by omega, by go_num, HK2⟩
        case measure => first | (simp [intOf]; done) | (simp [intOf]; omega)
theorem wrap_small (k : Nat) (hk : k ≤ 1000000) : IntKind.i64.wrap (k : Int) = k := by
  rw [IntWalk.i64_left]
  exact IntWalk.wrap64_in (k : Int) ⟨by omega, by omega⟩

set_option maxRecDepth 100000 in
theorem top_any (sb g k cp : Nat) (x : Value) (w : World) (c2 : w.cell? ⟨sb, 2, none⟩ = some (.slice (some ⟨g, 0, none⟩) (k + 1) cp)) (hk : k + 1 ≤ cp) (hc : cp ≤ maxLen) (d : w.cell? ⟨g, k, none⟩ = some x) (hx : x.oneCell' = true) (hk2 : k ≤ 1000000) :
    Calls Try.prog 26 #[.pointer (some ⟨sb, 0, none⟩)] w
    fun e w' => e = .returned x ∧ w.drew = w' := by
  have i0 : (0 : Int) ≤ (k : Int) := by omega
  have i1 : (k : Int) < (k : Int) + 1 := by omega
  have i2 : IntKind.i64.wrap (k : Int) = k := wrap_small k hk2
  go_enter Try.func26, Try.ntmps26
  go_wp2
  go_region_law fail
  all_goals go_wp2
  all_goals go_returns
  all_goals exact ⟨rfl, rfl⟩

set_option maxRecDepth 100000 in
set_option maxHeartbeats 800000 in
theorem pop_any (B sb : Nat) (S : List Fr) (v : Value) (q : Int) (w : World) (h : StkIn w B sb S none none v) (hB : B ≤ w.heap.size) (hS : S.length ≤ 1000000) (hq : 1 ≤ q) :
    Calls Try.prog 21 #[.pointer (some ⟨sb, 0, none⟩), .int .i64 q] w
    fun e w' => e = .returned (.tuple #[]) ∧ (∃ v' l c, StkIn w' B sb (if (S.length : Int) = q then S.take (S.length - 1) else S) l c v') ∧ Turned badS B w w' := by
  obtain ⟨calls, lim, ps, hP⟩ := h.part
  clear h
  have c2 : w.cell? ⟨sb, 2, none⟩ = some v := hP.cell rfl
  obtain ⟨ao, cp, rfl⟩ := owns_slice hP.row
  have HP := Lib.hid hP
  clear hP
  by_cases hq2 : (S.length : Int) = q
  · obtain ⟨k, hk⟩ : ∃ k, S.length = k + 1 := ⟨S.length - 1, by omega⟩
    rw [if_pos hq2, show S.length - 1 = k by omega]
    obtain ⟨f, hf⟩ : ∃ f, S[k]? = some f := ⟨S[k], List.getElem?_eq_getElem (by omega)⟩
    obtain ⟨g, cap, hv, h1, h2⟩ := HP.out.form (by omega)
    cases hv
    obtain ⟨p, b, n, l', c', d0, d1, d2, -, d4, -, -⟩ := HP.out.frame hf
    rw [hk] at c2
    subst hq2
    rw [hk]
    have i0 : (0 : Int) ≤ (k : Int) := by omega
    have i1 : (k : Int) < (k : Int) + 1 := by omega
    have i2 : IntKind.i64.wrap (k : Int) = k := wrap_small k (by omega)
    cases hcl : f.clean
    · rw [hcl] at d4
      have HPX := Lib.hid (HP.out.below (Below.refl _ _).drew)
      go_enter Try.func21, Try.ntmps21
      go_wp2_with fail
      refine (top_any sb g k cp _ _ c2 (by omega) h2 d0 rfl (by omega)).mono ?_
      rintro e w1 ⟨rfl, rfl⟩
      go_wp2
      obtain ⟨X, hX⟩ : ∃ X, w.drew = X := ⟨_, rfl⟩
      rw [hX] at HPX ⊢
      clear hX c2 d0 d1 d2 d4 HP
      obtain ⟨p, b, n, l', c', d0, d1, d2, -, d4, -, -⟩ := HPX.out.frame hf
      have c2 : X.cell? ⟨sb, 2, none⟩ = some (.slice (some ⟨g, 0, none⟩) (k + 1) cp) := by rw [← hk]; exact HPX.out.cell rfl
      have t0 : X.cell? ⟨sb, 0, none⟩ = some (.pointer none) := HPX.out.cell rfl
      have t1 : X.cell? ⟨sb, 1, none⟩ = some (.pointer none) := HPX.out.cell rfl
      have s0 := HPX.out.free 0
      have s1 := HPX.out.free 1
      have HP4 := Lib.hid ((((HPX.out.set 0 (.pointer l')).set 1 (.pointer c')).below (Below.alloc (Below.refl _ _) (Nat.le_refl _) (.cells #[.pointer l', .pointer c'] 44))).below (Below.refl _ _).drew)
      go_wp2
      go_region_law (first | (go_simp; go_at_call 15; refine (setTrace_any sb l' c' _ (by exact t0) (by exact t1) (by exact s0) (by exact s1)).mono ?_; rintro e w' ⟨rfl, rfl⟩))
      all_goals
        obtain ⟨Y, hY⟩ : ∃ Y, (((X.setCell ⟨sb, 0, none⟩ (.pointer l')).setCell ⟨sb, 1, none⟩ (.pointer c')).alloc (.cells #[.pointer l', .pointer c'] 44)).drew = Y := ⟨_, rfl⟩
        rw [hY] at HP4 ⊢
        clear hY t0 t1 s0 s1 d0 d1 d2 d4 c2 HPX
        have HPZ := Lib.hid ((HP4.out.take (show k ≤ S.length by omega)).set 2 (.slice (some ⟨g, 0, none⟩) k cp))
        have c2 : Y.cell? ⟨sb, 2, none⟩ = some (.slice (some ⟨g, 0, none⟩) (k + 1) cp) := by rw [← hk]; exact HP4.out.cell rfl
        have s2 := HP4.out.free 2
        have i3 : (k : Int) ≤ (cp : Int) := by omega
        go_wp2
        go_region_law fail
        all_goals
          go_wp2
          go_returns
          have HPW := HPZ.out.below (Below.refl _ _).drew
          simp at HPW
          exact ⟨rfl, ⟨_, _, _, HPW.stk⟩, HPW.turned⟩
    · rw [hcl] at d4
      have c3 : w.cell? ⟨sb, 3, none⟩ = some (.int .i64 calls) := HP.out.cell rfl
      have s3 := HP.out.free 3
      have HPX := Lib.hid ((HP.out.set 3 (.int .i64 (wrap64 (calls - 1)))).below (Below.refl _ _).drew)
      go_enter Try.func21, Try.ntmps21
      go_wp2_with fail
      refine (top_any sb g k cp _ _ c2 (by omega) h2 d0 rfl (by omega)).mono ?_
      rintro e w1 ⟨rfl, rfl⟩
      go_wp2
      obtain ⟨X, hX⟩ : ∃ X, (w.setCell ⟨sb, 3, none⟩ (.int .i64 (wrap64 (calls - 1)))).drew = X := ⟨_, rfl⟩
      rw [hX] at HPX ⊢
      clear hX c2 d0 d1 d2 d4 HP
      obtain ⟨p, b, n, l', c', d0, d1, d2, -, d4, -, -⟩ := HPX.out.frame hf
      have c2 : X.cell? ⟨sb, 2, none⟩ = some (.slice (some ⟨g, 0, none⟩) (k + 1) cp) := by rw [← hk]; exact HPX.out.cell rfl
      have t0 : X.cell? ⟨sb, 0, none⟩ = some (.pointer none) := HPX.out.cell rfl
      have t1 : X.cell? ⟨sb, 1, none⟩ = some (.pointer none) := HPX.out.cell rfl
      have s0 := HPX.out.free 0
      have s1 := HPX.out.free 1
      have HP4 := Lib.hid ((((HPX.out.set 0 (.pointer l')).set 1 (.pointer c')).below (Below.alloc (Below.refl _ _) (Nat.le_refl _) (.cells #[.pointer l', .pointer c'] 44))).below (Below.refl _ _).drew)
      go_wp2
      go_region_law (first | (go_simp; go_at_call 15; refine (setTrace_any sb l' c' _ (by exact t0) (by exact t1) (by exact s0) (by exact s1)).mono ?_; rintro e w' ⟨rfl, rfl⟩))
      all_goals
        obtain ⟨Y, hY⟩ : ∃ Y, (((X.setCell ⟨sb, 0, none⟩ (.pointer l')).setCell ⟨sb, 1, none⟩ (.pointer c')).alloc (.cells #[.pointer l', .pointer c'] 44)).drew = Y := ⟨_, rfl⟩
        rw [hY] at HP4 ⊢
        clear hY t0 t1 s0 s1 d0 d1 d2 d4 c2 HPX
        have HPZ := Lib.hid ((HP4.out.take (show k ≤ S.length by omega)).set 2 (.slice (some ⟨g, 0, none⟩) k cp))
        have c2 : Y.cell? ⟨sb, 2, none⟩ = some (.slice (some ⟨g, 0, none⟩) (k + 1) cp) := by rw [← hk]; exact HP4.out.cell rfl
        have s2 := HP4.out.free 2
        have i3 : (k : Int) ≤ (cp : Int) := by omega
        go_wp2
        go_region_law fail
        all_goals
          go_wp2
          go_returns
          have HPW := HPZ.out.below (Below.refl _ _).drew
          simp at HPW
          exact ⟨rfl, ⟨_, _, _, HPW.stk⟩, HPW.turned⟩
  · rw [if_neg hq2]
    go_enter Try.func21, Try.ntmps21
    go_wp2
    go_returns
    exact ⟨rfl, ⟨.slice ao S.length cp, none, none, HP.out.stk⟩, HP.out.turned⟩
end Go.Proofs.Ytbdadgkjiondgaa.fnStackScope
