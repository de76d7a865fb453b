/-
  FnDirect: the builder's leaves; small functions.
-/
import Derived.Test.YtkpfbgeaodopoaaDirNode
namespace Go.Proofs.Ytkpfbgeaodopoaa.fnDirect
open Go.RowKit
set_option linter.unusedSimpArgs false
set_option linter.unusedVariables false

/-- A node as a value. -/
def Nd.v (x : Nd) : Value := .agg #[.int .i64 x.kind, .int .i64 x.op, .string x.text, .int .i64 x.flag, .int .i64 x.size]

/-- An interface over a new block. -/
def NewN (w w' : World) (v : Value) (T : TypeId) : Prop := ∃ x, v = .iface T (.pointer (some ⟨x, 0, none⟩)) ∧ isN T = true ∧ w.heap.size ≤ x ∧ NodeAt w' x

set_option maxRecDepth 100000 in
theorem str_any (c : Ctx) (s : ByteArray) (w : World) (P : Nat → Value) (hb : Bld c w P) :
    Calls Try.prog 49 #[.pointer (some ⟨c.bb, 0, none⟩), .string s] w fun e w' => ∃ x, e = .returned (.pointer (some ⟨x, 0, none⟩)) ∧ w.heap.size ≤ x ∧ NodeAt w' x ∧ Below w.heap.size w w' := by
  have c1 := hb.c1
  clear hb
  go_enter Try.func49, Try.ntmps49
  go_wp2
  go_ret
  exact ⟨_, rfl, by simp, ⟨_, _, block_new _ _, rfl⟩, by go_grown⟩

set_option maxRecDepth 100000 in
theorem count_any (c : Ctx) (ao : Option Addr) (n cap : Nat) (lo hi : Int) (w : World) (h1 : lo ≤ n) (h2 : (n : Int) ≤ hi) :
    Calls Try.prog 50 #[.pointer (some ⟨c.bb, 0, none⟩), .slice ao n cap, .int .i64 lo, .int .i64 hi] w fun e w' => e = .returned (.bool true) ∧ w = w' := by
  go_enter Try.func50, Try.ntmps50
  go_wp2
  go_ret
  exact ⟨rfl, rfl⟩

theorem unaryOp_any (op : Int) (w : World) (h : op ∈ [(1 : Int), 2, 3, 4]) :
    Calls Try.prog 56 #[.int .i64 op] w fun e w' => ∃ q : Int, e = .returned (.tuple #[.int .i64 q, .bool true]) ∧ w = w' := by
  simp at h
  rcases h with rfl | rfl | rfl | rfl
  all_goals
    go_enter Try.func56, Try.ntmps56
    go_wp2
    go_ret2
    exact ⟨_, rfl, rfl⟩

theorem hides_any (op : Int) (w : World) (h : op ∈ [(0 : Int), 1, 2]) :
    Calls Try.prog 58 #[.int .i64 op] w fun e w' => ∃ q : Int, e = .returned (.tuple #[.int .i64 q, .bool true]) ∧ w = w' := by
  simp at h
  rcases h with rfl | rfl | rfl
  all_goals
    go_enter Try.func58, Try.ntmps58
    go_wp2
    go_ret2
    exact ⟨_, rfl, rfl⟩

set_option maxRecDepth 100000 in
theorem binaries_any (w : World) : Calls Try.prog 65 #[] w fun e w' => ∃ g, e = .returned (.slice (some ⟨g, 0, none⟩) 20 20) ∧ (∀ k, k < 20 → ∃ q : Int, w'.cell? ⟨g, k, none⟩ = some (.int .i64 q)) ∧ Below w.heap.size w w' := by
  go_enter Try.func65, Try.ntmps65
  go_wp2
  go_ret
  refine ⟨_, rfl, fun k hk => ?_, by go_grown⟩
  rw [World.cell?_alloc_mark]
  rcases k with _ | _ | _ | _ | _ | _ | _ | _ | _ | _ | _ | _ | _ | _ | _ | _ | _ | _ | _ | _ | k
  all_goals first | exact ⟨_, rfl⟩ | omega

set_option maxRecDepth 100000 in
theorem binaryOp_any (op : Int) (w : World) (h1 : 1 ≤ op) (h2 : op ≤ 19) :
    Calls Try.prog 57 #[.int .i64 op] w fun e w' => ∃ q : Int, e = .returned (.tuple #[.int .i64 q, .bool true]) ∧ Below w.heap.size w w' := by
  obtain ⟨k, rfl⟩ : ∃ k : Nat, op = k := ⟨op.toNat, by omega⟩
  go_enter Try.func57, Try.ntmps57
  go_wp2_with (go_at_call 65; refine (binaries_any _).mono ?_; rintro e w1 ⟨g, rfl, hc, hb⟩; obtain ⟨q, hq⟩ := hc k (by omega); clear hc)
  go_ret2
  exact ⟨_, rfl, hb⟩

set_option maxRecDepth 100000 in
theorem isSpec_any (c : Ctx) (i : Nat) (w : World) (P : Nat → Value) (hb : Bld c w P) (hi : i < c.n) (hn : c.n ≤ 400) :
    Calls Try.prog 67 #[.pointer (some ⟨c.bb, 0, none⟩), .int .i64 i] w fun e w' => e = .returned (.bool (decide ((c.E i).kind = 38 ∨ (c.E i).kind = 39))) ∧ w = w' := by
  have c0 := hb.c0
  obtain ⟨q0, -⟩ := hb.t i hi
  clear hb
  generalize (c.E i).kind = kd at *
  by_cases h1 : kd = 38
  · subst h1
    go_enter Try.func67, Try.ntmps67
    go_wp2
    go_ret
    exact ⟨rfl, rfl⟩
  · by_cases h2 : kd = 39
    · subst h2
      go_enter Try.func67, Try.ntmps67
      go_wp2
      go_ret
      exact ⟨rfl, rfl⟩
    · go_enter Try.func67, Try.ntmps67
      go_wp2
      go_ret
      exact ⟨by simp [h1, h2], rfl⟩

set_option maxRecDepth 100000 in
theorem leaf_no (c : Ctx) (x : Nd) (w : World) (P : Nat → Value) (hb : Bld c w P) (h : x.kind ∉ [(1 : Int), 2, 3, 4, 5, 6, 7, 8, 26, 27, 28]) (h9 : x.kind = 9 → x.flag = 0) :
    Calls Try.prog 44 #[.pointer (some ⟨c.bb, 0, none⟩), x.v] w fun e w' => e = .returned .nilIface ∧ Below w.heap.size w w' := by
  have c1 := hb.c1
  have d1 := fun o => cell_past o c1
  clear hb
  obtain ⟨kind, op, text, flag, size⟩ := x
  simp only [Nd.v] at *
  simp only [List.mem_cons, List.not_mem_nil, or_false, not_or] at h
  obtain ⟨n1, n2, n3, n4, n5, n6, n7, n8, n26, n27, n28⟩ := h
  by_cases e9 : kind = 9
  · subst e9
    have := h9 rfl
    subst this
    go_enter Try.func44, Try.ntmps44
    go_wp2
    go_ret
    exact ⟨rfl, by go_grown⟩
  · clear h9
    go_enter Try.func44, Try.ntmps44
    go_wp2
    go_ret
    exact ⟨rfl, by go_grown⟩

set_option maxRecDepth 100000 in
theorem leaf_yes (c : Ctx) (x : Nd) (w : World) (P : Nat → Value) (hb : Bld c w P) (h : x.kind ∈ [(1 : Int), 2, 3, 4, 5, 6, 7, 8, 26, 27, 28]) :
    Calls Try.prog 44 #[.pointer (some ⟨c.bb, 0, none⟩), x.v] w fun e w' => ∃ v T, e = .returned v ∧ NewN w w' v T ∧ (∀ T0, leafT x.kind = some T0 → T = T0) ∧ Below w.heap.size w w' := by
  have c1 := hb.c1
  have d1 := fun o => cell_past o c1
  have HB := fun (w' : World) (hw : Below w.heap.size w w') => hb.below hw
  have HB' := Lib.hid HB
  clear hb HB
  obtain ⟨kind, op, text, flag, size⟩ := x
  simp only [Nd.v] at *
  have hbx : Below w.heap.size w (w.alloc (.cells #[.int .i64 kind, .int .i64 op, .string text, .int .i64 flag, .int .i64 size] 28)) := by go_grown
  have HX := Lib.hid hbx
  clear hbx
  simp only [List.mem_cons, List.not_mem_nil, or_false] at h
  rcases h with rfl | rfl | rfl | rfl | rfl | rfl | rfl | rfl | rfl | rfl | rfl
  all_goals
    go_enter Try.func44, Try.ntmps44
    go_wp2_with (go_at_call 49; refine (str_any c _ _ P (HB'.out _ HX.out)).mono ?_; rintro e w1 ⟨y, rfl, hy1, hy2, hb1⟩; have HB1 := Lib.hid (HX.out.trans (hb1.mono HX.out.size)))
    go_ret
  · exact ⟨_, _, rfl, ⟨_, rfl, rfl, by simp, _, _, block_new' (by simp) _, rfl⟩, fun T0 h => Option.some.inj h, by go_grown⟩
  · exact ⟨_, _, rfl, ⟨_, rfl, rfl, by simp, _, _, block_new' (by simp) _, rfl⟩, fun T0 h => Option.some.inj h, by go_grown⟩
  · exact ⟨_, _, rfl, ⟨_, rfl, rfl, by simp, _, _, block_new' (by simp) _, rfl⟩, fun T0 h => Option.some.inj h, by go_grown⟩
  · exact ⟨_, _, rfl, ⟨_, rfl, rfl, by simp, _, _, block_new' (by simp) _, rfl⟩, fun T0 h => Option.some.inj h, by go_grown⟩
  · exact ⟨_, _, rfl, ⟨_, rfl, rfl, by simp at hy1; omega, hy2⟩, fun T0 h => Option.some.inj h, HB1.out⟩
  · exact ⟨_, _, rfl, ⟨_, rfl, rfl, by simp, _, _, block_new' (by simp) _, rfl⟩, fun T0 h => Option.some.inj h, by go_grown⟩
  · exact ⟨_, _, rfl, ⟨_, rfl, rfl, by simp, _, _, block_new' (by simp) _, rfl⟩, fun T0 h => Option.some.inj h, by go_grown⟩
  · exact ⟨_, _, rfl, ⟨_, rfl, rfl, by simp, _, _, block_new' (by simp) _, rfl⟩, fun T0 h => Option.some.inj h, by go_grown⟩
  all_goals
    have hs1 := HB1.out.size
    exact ⟨_, _, rfl, ⟨_, rfl, rfl, hs1, _, _, block_new' (by simp) _, rfl⟩, by intro T0 h; simp [leafT] at h, HB1.out.alloc hs1 _⟩

set_option maxRecDepth 100000 in
theorem leaf_super (c : Ctx) (x : Nd) (w : World) (P : Nat → Value) (hb : Bld c w P) (h : x.kind = 9) (hf : x.flag = 1) :
    Calls Try.prog 44 #[.pointer (some ⟨c.bb, 0, none⟩), x.v] w fun e w' => ∃ v T, e = .returned v ∧ NewN w w' v T ∧ Below w.heap.size w w' := by
  have c1 := hb.c1
  have d1 := fun o => cell_past o c1
  clear hb
  obtain ⟨kind, op, text, flag, size⟩ := x
  simp only [Nd.v] at *
  subst h hf
  go_enter Try.func44, Try.ntmps44
  go_wp2
  go_ret
  exact ⟨_, _, rfl, ⟨_, rfl, rfl, by first | omega | (simp; done) | (simp; omega), _, _, block_new' (by simp) _, rfl⟩, by go_grown⟩
end Go.Proofs.Ytkpfbgeaodopoaa.fnDirect
