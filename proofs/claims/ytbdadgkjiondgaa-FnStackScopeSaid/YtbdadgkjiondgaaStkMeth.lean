/-
  FnStackScope: the stack's methods that put frames there.
-/
import Derived.Test.YtbdadgkjiondgaaStkParts
namespace Go.Proofs.Ytbdadgkjiondgaa.fnStackScope
open Go.RowKit Go.Maps Go.WideMaps
set_option linter.unusedSimpArgs false
set_option linter.unusedVariables false

theorem names_all (L : List ByteArray) : names (fun i => L.getD i ByteArray.empty) L.length = L := by
  apply List.ext_getElem
  · simp [names]
  · intro i h1 h2
    simp [names, h2]

theorem at_list (L : List ByteArray) (s : ByteArray) (z : DataW Unit) : (setD L).atKey (.string s.data.toList) z = if s ∈ L then .lit (.bool true) else z := by
  have := at_set (fun i => L.getD i ByteArray.empty) s z L.length
  rw [names_all] at this
  exact this

def ptr (p : Nat) : Value := .pointer (some ⟨p, 0, none⟩)

/-- A frame in memory. -/
def FrAt (w : World) (p : Nat) (f : Fr) : Prop :=
  ∃ (C : Array Value) (b n : Nat) (l c : Option Addr), w.heap[p]? = some (.cells C 90 (0, 0)) ∧ C[0]? = some (.pointer l) ∧ C[1]? = some (.pointer c) ∧ C[2]? = some (.map (some b)) ∧ C[5]? = some (.bool f.clean) ∧ C[6]? = some (.bool f.trim) ∧ MapIn w b n f.names f.val

theorem FrAt.turned {bad : TypeId → Bool} {B : Nat} {w w' : World} {p : Nat} {f : Fr} (h : FrAt w p f) (hk : Keep w w') (ht : Turned bad B w w') : FrAt w' p f := by
  obtain ⟨C, b, n, l, c, h1, h2, h3, h4, h5, h6, h7⟩ := h
  exact ⟨C, b, n, l, c, hk _ _ _ (.inr (.inr rfl)) h1, h2, h3, h4, h5, h6, h7.turned hk ht⟩

def Frames (w : World) (ps : List Nat) (S : List Fr) : Prop := ps.length = S.length ∧ ∀ (i p : Nat) (f : Fr), ps[i]? = some p → S[i]? = some f → FrAt w p f

theorem Frames.turned {bad : TypeId → Bool} {B : Nat} {w w' : World} {ps : List Nat} {S : List Fr} (h : Frames w ps S) (hk : Keep w w') (ht : Turned bad B w w') : Frames w' ps S :=
  ⟨h.1, fun i p f hp hf => (h.2 i p f hp hf).turned hk ht⟩

/-- The stack in memory. -/
def StkIn (w : World) (B sb : Nat) (S : List Fr) (l c : Option Addr) (v : Value) : Prop :=
  ∃ (calls lim : Int) (ps : List Nat), w.heap[sb]? = some (.cells #[.pointer l, .pointer c, v, .int .i64 calls, .int .i64 lim] 47 (0, 0)) ∧ B ≤ sb ∧ w.ownsRow B 88 1 v S.length (ps.map ptr) ∧ Frames w ps S

def badS (t : TypeId) : Bool := t == 47 || t == 88

theorem keepS {B : Nat} {w w' : World} (h : Turned badS B w w') : Keep w w' := Keep.of_turned h rfl rfl rfl

/-- The stack, and what has turned since. -/
structure Part (B sb : Nat) (w W : World) (C : Array Value) (v : Value) (ps : List Nat) (S : List Fr) : Prop where
  blk : W.heap[sb]? = some (.cells C 47 (0, 0))
  turned : Turned badS B w W
  row : W.ownsRow B 88 1 v S.length (ps.map ptr)
  frames : Frames W ps S
  le : B ≤ sb

theorem Part.stk {B sb : Nat} {w W : World} {l c : Option Addr} {v : Value} {calls lim : Int} {ps : List Nat} {S : List Fr} (h : Part B sb w W #[.pointer l, .pointer c, v, .int .i64 calls, .int .i64 lim] v ps S) : StkIn W B sb S l c v :=
  ⟨calls, lim, ps, h.blk, h.le, h.row, h.frames⟩

theorem StkIn.part {B sb : Nat} {w : World} {l c : Option Addr} {v : Value} {S : List Fr} (h : StkIn w B sb S l c v) : ∃ (calls lim : Int) (ps : List Nat), Part B sb w w #[.pointer l, .pointer c, v, .int .i64 calls, .int .i64 lim] v ps S := by
  obtain ⟨calls, lim, ps, h1, h2, h3, h4⟩ := h
  exact ⟨calls, lim, ps, h1, Turned.refl _ _ _, h3, h4, h2⟩

theorem Part.ne {B sb : Nat} {w W : World} {C : Array Value} {v : Value} {ps : List Nat} {S : List Fr} (h : Part B sb w W C v ps S) : v.ownBlock ≠ some sb := (own_block_ne h.row h.blk (by decide)).symm

theorem Part.set {B sb : Nat} {w W : World} {C : Array Value} {v : Value} {ps : List Nat} {S : List Fr} (h : Part B sb w W C v ps S) (i : Nat) (u : Value) : Part B sb w (W.setCell ⟨sb, i, none⟩ u) (C.setIfInBounds i u) v ps S := by
  have ht : Turned badS B W (W.setCell ⟨sb, i, none⟩ u) := (Turned.refl _ _ _).setCell (a := ⟨sb, i, none⟩) h.le h.blk rfl u
  exact ⟨block_setCell h.blk, h.turned.trans ht, ownsRow_setCell_other h.row h.ne u, h.frames.turned (keepS ht) ht, h.le⟩

theorem Part.below {B sb : Nat} {w W W' : World} {C : Array Value} {v : Value} {ps : List Nat} {S : List Fr} (h : Part B sb w W C v ps S) (hb : Below W.heap.size W W') : Part B sb w W' C v ps S := by
  have ht : Turned badS B W W' := Turned.of_below hb
  exact ⟨(hb.block _ (lt_of_block h.blk)).trans h.blk, h.turned.trans ht, own_below h.row hb, h.frames.turned (keepS ht) ht, h.le⟩

theorem Part.cell {B sb : Nat} {w W : World} {C : Array Value} {v : Value} {ps : List Nat} {S : List Fr} (h : Part B sb w W C v ps S) {i : Nat} {u : Value} (hc : C[i]? = some u) : W.cell? ⟨sb, i, none⟩ = some u := cell_of_block h.blk hc
theorem Part.free {B sb : Nat} {w W : World} {C : Array Value} {v : Value} {ps : List Nat} {S : List Fr} (h : Part B sb w W C v ps S) (i : Nat) : W.frozen? ⟨sb, i, none⟩ = false := free_of_block h.blk

/-- A frame is put there. -/
theorem Part.push {B sb : Nat} {w W W2 : World} {C : Array Value} {v v1 : Value} {ps : List Nat} {S : List Fr} (h : Part B sb w W C v ps S) (hg : W.grownBy W2 v.ownBlock) {p : Nat} (hown : W2.ownsRow B 88 1 v1 (S.length + 1) (ps.map ptr ++ [.pointer (some ⟨p, 0, none⟩)])) {f : Fr} (hf : FrAt W p f) : Part B sb w W2 C v1 (ps ++ [p]) (S ++ [f]) := by
  have ht : Turned badS B W W2 := (Turned.refl _ _ _).own hg h.row (Nat.le_refl _) rfl
  refine ⟨block_grown h.blk hg h.ne.symm, h.turned.trans ht, by simpa [ptr] using hown, ⟨by simp [h.frames.1], fun i q f' hq hf' => ?_⟩, h.le⟩
  by_cases hi : i < ps.length
  · have hi2 : i < S.length := by rw [← h.frames.1]; exact hi
    rw [List.getElem?_append_left hi] at hq
    rw [List.getElem?_append_left hi2] at hf'
    exact (h.frames.2 i q f' hq hf').turned (keepS ht) ht
  · have hi2 : ¬ i < S.length := by rw [← h.frames.1]; exact hi
    rw [List.getElem?_append_right (by omega)] at hq hf'
    rw [h.frames.1] at hq
    obtain ⟨j, hj⟩ : ∃ j, i - S.length = j := ⟨_, rfl⟩
    rw [hj] at hq hf'
    cases j with
    | zero =>
      simp at hq hf'
      subst hq; subst hf'
      exact hf.turned (keepS ht) ht
    | succ j => simp at hq

theorem lt_of_cell {w : World} {b i : Nat} {v : Value} (h : w.cell? ⟨b, i, none⟩ = some v) : b < w.heap.size := by
  rcases Nat.lt_or_ge b w.heap.size with h' | h'
  · exact h'
  · simp [World.cell?, Array.getElem?_eq_none h'] at h

theorem free_past {w : World} {b i : Nat} (o : Obj) (h : w.frozen? ⟨b, i, none⟩ = false) (hb : b < w.heap.size) : (w.alloc o).frozen? ⟨b, i, none⟩ = false :=
  (Below.frozen (Below.alloc (Below.refl w.heap.size w) (Nat.le_refl _) o) hb).trans h

theorem infoFrP : (Try.prog.info? 88).map (fun i => (i.zero, i.size, i.bytes)) = some (some (.pointer none), 1, 8) := by kernel_rfl

set_option maxRecDepth 100000 in
theorem env_any (b : Nat) (p : Option Addr) (d : Int) (w : World) : Calls Try.prog 17 #[.map (some b), .agg #[.pointer p, .int .i64 d]] w
    fun e w' => e = .returned (.agg #[.map (some b), .pointer p, .int .i64 d]) ∧ (w.alloc (.cells #[.pointer p, .int .i64 d] 61)).alloc (.cells #[.map (some b), .pointer p, .int .i64 d] 63) = w' := by
  go_enter Try.func17, Try.ntmps17
  go_wp2
  refine bodyPost_ret (v := .agg #[.map (some b), .pointer p, .int .i64 d]) (by simp [results, Try.results17, go_sem]) rfl ?_
  exact ⟨rfl, rfl⟩

theorem unbound_any (w : World) : Calls Try.prog 19 #[] w
    fun e w' => e = .returned (.agg #[.pointer none, .int .i64 123456789]) ∧ w.alloc (.cells #[.pointer none, .int .i64 123456789] 61) = w' := by
  go_enter Try.func19, Try.ntmps19
  go_wp2
  refine bodyPost_ret (v := .agg #[.pointer none, .int .i64 123456789]) (by simp [results, Try.results19, go_sem]) rfl ?_
  exact ⟨rfl, rfl⟩

theorem clear_any (sb : Nat) (l c : Option Addr) (w : World) (c0 : w.cell? ⟨sb, 0, none⟩ = some (.pointer l)) (c1 : w.cell? ⟨sb, 1, none⟩ = some (.pointer c)) (f0 : w.frozen? ⟨sb, 0, none⟩ = false) (f1 : w.frozen? ⟨sb, 1, none⟩ = false) :
    Calls Try.prog 14 #[.pointer (some ⟨sb, 0, none⟩)] w
    fun e w' => e = .returned (.tuple #[]) ∧ (w.setCell ⟨sb, 0, none⟩ (.pointer none)).setCell ⟨sb, 1, none⟩ (.pointer none) = w' := by
  go_enter Try.func14, Try.ntmps14
  go_wp2
  go_end0
  exact ⟨rfl, rfl⟩

@[go_sem] theorem eq_loc (w : World) : (Op.equalIn 9999 40 (.pointer none) (.pointer none)).run Try.prog w = .ok true w := by kernel_rfl
@[go_sem] theorem eq_ctx (w : World) : (Op.equalIn 9999 42 (.pointer none) (.pointer none)).run Try.prog w = .ok true w := by kernel_rfl
@[go_sem] theorem ne_loc (a : Addr) (w : World) : (Op.equalIn 9999 40 (.pointer (some a)) (.pointer none)).run Try.prog w = .ok false w := by kernel_rfl

set_option maxRecDepth 100000 in
theorem setTrace_any (sb : Nat) (l x : Option Addr) (w : World) (c0 : w.cell? ⟨sb, 0, none⟩ = some (.pointer none)) (c1 : w.cell? ⟨sb, 1, none⟩ = some (.pointer none)) (f0 : w.frozen? ⟨sb, 0, none⟩ = false) (f1 : w.frozen? ⟨sb, 1, none⟩ = false) :
    Calls Try.prog 15 #[.pointer (some ⟨sb, 0, none⟩), .agg #[.pointer l, .pointer x]] w
    fun e w' => e = .returned (.tuple #[]) ∧ ((w.setCell ⟨sb, 0, none⟩ (.pointer l)).setCell ⟨sb, 1, none⟩ (.pointer x)).alloc (.cells #[.pointer l, .pointer x] 44) = w' := by
  have k0 := fun o => cell_past o c0
  have k1 := fun o => cell_past o c1
  have lt0 := lt_of_cell c0
  have g0 := fun o => free_past o f0 lt0
  have g1 := fun o => free_past o f1 lt0
  go_enter Try.func15, Try.ntmps15
  go_wp2
  go_end0
  exact ⟨rfl, rfl⟩

theorem fr_new (w w1 : World) (p b n : Nat) (L : List ByteArray) (val : Nat) (clean tr : Bool) (hm : MapIn w b n L val) (h1 : Below w.heap.size w w1) (hp : w1.heap.size = p) (y : Obj) (l c : Option Addr) (u1 u2 : Value) : FrAt ((w1.alloc (.cells #[.pointer l, .pointer c, .map (some b), u1, u2, .bool clean, .bool tr] 90)).alloc y).drew p ⟨L, clean, tr, val⟩ := by
  have hb : Below w.heap.size w ((w1.alloc (.cells #[.pointer l, .pointer c, .map (some b), u1, u2, .bool clean, .bool tr] 90)).alloc y).drew := by
    go_grown
    all_goals (have := h1.size; first | exact this | (simp; omega))
  have h1 := block_alloc (block_new' (w := w1) (n := p) hp (.cells #[.pointer l, .pointer c, .map (some b), u1, u2, .bool clean, .bool tr] 90)) y
  exact ⟨_, b, n, l, c, h1, rfl, rfl, rfl, rfl, rfl, hm.below hb⟩

set_option maxRecDepth 100000 in
set_option maxHeartbeats 1600000 in
theorem newCall_any (B sb : Nat) (S : List Fr) (l0 : Addr) (c : Option Addr) (v : Value) (b n : Nat) (L : List ByteArray) (val : Nat) (tr : Bool) (w : World) (h : StkIn w B sb S (some l0) c v) (hm : MapIn w b n L val) (hB : B ≤ w.heap.size) (hS : S.length ≤ 1000000) :
    Calls Try.prog 16 #[.pointer (some ⟨sb, 0, none⟩), .agg #[.map (some b), .pointer none, .int .i64 123456789], .bool tr] w
    fun e w' => e = .returned (.tuple #[]) ∧ (∃ v', StkIn w' B sb (S ++ [⟨L, true, tr, val⟩]) none none v') ∧ Turned badS B w w' := by
  obtain ⟨calls, lim, ps, hP⟩ := h.part
  clear h
  have c0 : w.cell? ⟨sb, 0, none⟩ = some (.pointer (some l0)) := hP.cell rfl
  have c1 : w.cell? ⟨sb, 1, none⟩ = some (.pointer c) := hP.cell rfl
  have c2 : w.cell? ⟨sb, 2, none⟩ = some v := hP.cell rfl
  have HP := Lib.hid hP
  have HM := Lib.hid hm
  clear hP hm
  have k0 := fun o => cell_past o c0
  have k1 := fun o => cell_past o c1
  have k2 := fun o => cell_past o c2
  have kk2 := fun o o' => cell_past o' (cell_past o c2)
  have kkk2 := fun o o' o'' => cell_past o'' (cell_past o' (cell_past o c2))
  have HFr := Lib.hid (fr_new w (w.alloc (.cells #[.map (some b), .pointer none, .int .i64 123456789] 63)) (w.heap.size + 1) b n L val true tr HM.out (by go_grown) (by simp) (.cells #[.pointer (some ⟨w.heap.size + 1, 0, none⟩)] 88) (some l0) c (.pointer none) (.int .i64 123456789))
  have HW : Hid (Below w.heap.size w (((w.alloc (.cells #[.map (some b), .pointer none, .int .i64 123456789] 63)).alloc (.cells #[.pointer (some l0), .pointer c, .map (some b), .pointer none, .int .i64 123456789, .bool true, .bool tr] 90)).alloc (.cells #[.pointer (some ⟨w.heap.size + 1, 0, none⟩)] 88)).drew) := Lib.hid (by go_grown)
  go_enter Try.func16, Try.ntmps16
  go_wp2
  go_region_law (first | (refine step_append rfl (.tmp 17) (.tmp 26) 45 rfl (app1 (wr := w) (B := B) 45 45 88 Try.underlying45 infoFrP rfl HP.out.row hB (grown_of_below (by go_grown)) (by omega) (by omega) (.pointer (some ⟨w.heap.size + 1, 0, none⟩)) rfl ⟨w.heap.size + 1 + 1, 0, none⟩ 1 (cell_at_new (by simp))) ?_; rintro v1 w2 ⟨hown2, hg, hbb⟩; obtain ⟨ao2, cq2, rfl⟩ := owns_slice hown2; have HP2 := Lib.hid (Part.push (HP.out.below HW.out) hg hown2 HFr.out); have q2 : w2.cell? ⟨sb, 2, none⟩ = some v := HP2.out.cell rfl; have g2 := HP2.out.free 2))
  all_goals
    have HP3 := Lib.hid (HP2.out.set 2 (.slice ao2 (S.length + 1) cq2))
    obtain ⟨w3, hw3⟩ : ∃ w3, w2.setCell ⟨sb, 2, none⟩ (.slice ao2 (S.length + 1) cq2) = w3 := ⟨_, rfl⟩
    rw [hw3] at HP3 ⊢
    clear hw3 q2 g2 HP2 hown2 hbb hg HFr HW k0 k1 k2 kk2 kkk2 c0 c1 c2 HP HM
    have d0 : w3.cell? ⟨sb, 0, none⟩ = some (.pointer (some l0)) := HP3.out.cell rfl
    have d1 : w3.cell? ⟨sb, 1, none⟩ = some (.pointer c) := HP3.out.cell rfl
    have d3 : w3.cell? ⟨sb, 3, none⟩ = some (.int .i64 calls) := HP3.out.cell rfl
    have e0 := HP3.out.free 0
    have e1 := HP3.out.free 1
    have e3 := HP3.out.free 3
    go_wp2_with fail
    refine (clear_any sb _ _ _ d0 d1 e0 e1).mono ?_
    rintro e w4 ⟨rfl, rfl⟩
    go_wp2
    go_end0
    have HP5 := ((HP3.out.set 0 (.pointer none)).set 1 (.pointer none)).set 3 (.int .i64 (wrap64 (calls + 1)))
    simp at HP5
    exact ⟨rfl, ⟨_, HP5.stk⟩, HP5.turned⟩

set_option maxRecDepth 100000 in
set_option maxHeartbeats 1600000 in
theorem newLocal_any (B sb : Nat) (S : List Fr) (l c : Option Addr) (v : Value) (b n : Nat) (L : List ByteArray) (val : Nat) (w : World) (h : StkIn w B sb S l c v) (hm : MapIn w b n L val) (hB : B ≤ w.heap.size) (hS : S.length ≤ 1000000) :
    Calls Try.prog 20 #[.pointer (some ⟨sb, 0, none⟩), .map (some b)] w
    fun e w' => e = .returned (.tuple #[]) ∧ (∃ v', StkIn w' B sb (S ++ [⟨L, false, false, val⟩]) none none v') ∧ Turned badS B w w' := by
  obtain ⟨calls, lim, ps, hP⟩ := h.part
  clear h
  have c0 : w.cell? ⟨sb, 0, none⟩ = some (.pointer l) := hP.cell rfl
  have c1 : w.cell? ⟨sb, 1, none⟩ = some (.pointer c) := hP.cell rfl
  have c2 : w.cell? ⟨sb, 2, none⟩ = some v := hP.cell rfl
  have HP := Lib.hid hP
  have HM := Lib.hid hm
  clear hP hm
  have k0 := fun o o' => cell_past o' (cell_past o c0)
  have k1 := fun o o' => cell_past o' (cell_past o c1)
  have k2 := fun o o' => cell_past o' (cell_past o c2)
  have kk2 := fun o o' o'' => cell_past o'' (cell_past o' (cell_past o c2))
  have kkk2 := fun o o' o'' o3 => cell_past o3 (cell_past o'' (cell_past o' (cell_past o c2)))
  have HFr := Lib.hid (fr_new w ((w.alloc (.cells #[.pointer none, .int .i64 0] 61)).alloc (.cells #[.map (some b), .pointer none, .int .i64 0] 63)) (w.heap.size + 1 + 1) b n L val false false HM.out (by go_grown) (by simp) (.cells #[.pointer (some ⟨w.heap.size + 1 + 1, 0, none⟩)] 88) l c (.pointer none) (.int .i64 0))
  have HW : Hid (Below w.heap.size w ((((w.alloc (.cells #[.pointer none, .int .i64 0] 61)).alloc (.cells #[.map (some b), .pointer none, .int .i64 0] 63)).alloc (.cells #[.pointer l, .pointer c, .map (some b), .pointer none, .int .i64 0, .bool false, .bool false] 90)).alloc (.cells #[.pointer (some ⟨w.heap.size + 1 + 1, 0, none⟩)] 88)).drew) := Lib.hid (by go_grown)
  go_enter Try.func20, Try.ntmps20
  go_wp2
  go_region_law (first | (go_simp; go_at_call 17; refine (env_any _ _ _ _).mono ?_; rintro e w' ⟨rfl, rfl⟩) | (refine step_append rfl (.tmp 8) (.tmp 18) 45 rfl (app1 (wr := w) (B := B) 45 45 88 Try.underlying45 infoFrP rfl HP.out.row hB (grown_of_below (by go_grown)) (by omega) (by omega) (.pointer (some ⟨w.heap.size + 1 + 1, 0, none⟩)) rfl ⟨w.heap.size + 1 + 1 + 1, 0, none⟩ 1 (cell_at_new (by simp))) ?_; rintro v1 w2 ⟨hown2, hg, hbb⟩; obtain ⟨ao2, cq2, rfl⟩ := owns_slice hown2; have HP2 := Lib.hid (Part.push (HP.out.below HW.out) hg hown2 HFr.out); have q2 : w2.cell? ⟨sb, 2, none⟩ = some v := HP2.out.cell rfl; have g2 := HP2.out.free 2))
  all_goals
    have HP3 := Lib.hid (HP2.out.set 2 (.slice ao2 (S.length + 1) cq2))
    obtain ⟨w3, hw3⟩ : ∃ w3, w2.setCell ⟨sb, 2, none⟩ (.slice ao2 (S.length + 1) cq2) = w3 := ⟨_, rfl⟩
    rw [hw3] at HP3 ⊢
    clear hw3 q2 g2 HP2 hown2 hbb hg HFr HW k0 k1 k2 kk2 kkk2 c0 c1 c2 HP HM
    have d0 : w3.cell? ⟨sb, 0, none⟩ = some (.pointer l) := HP3.out.cell rfl
    have d1 : w3.cell? ⟨sb, 1, none⟩ = some (.pointer c) := HP3.out.cell rfl
    have e0 := HP3.out.free 0
    have e1 := HP3.out.free 1
    go_wp2_with fail
    refine (clear_any sb _ _ _ d0 d1 e0 e1).mono ?_
    rintro e w4 ⟨rfl, rfl⟩
    go_wp2
    go_end0
    have HP5 := (HP3.out.set 0 (.pointer none)).set 1 (.pointer none)
    simp at HP5
    exact ⟨rfl, ⟨_, HP5.stk⟩, HP5.turned⟩
end Go.Proofs.Ytbdadgkjiondgaa.fnStackScope
