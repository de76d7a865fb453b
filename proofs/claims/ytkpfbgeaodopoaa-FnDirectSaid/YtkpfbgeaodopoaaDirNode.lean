/-
  FnDirect: the builder's node, kids.
-/
import Derived.Test.YtkpfbgeaodopoaaDirMem
namespace Go.Proofs.Ytkpfbgeaodopoaa.fnDirect
open Go.RowKit
set_option linter.unusedSimpArgs false
set_option linter.unusedVariables false

/-- node, of nodes that are small enough. -/
def NodeTo (c : Ctx) (N : Nat) : Prop := ∀ (i : Nat) (w : World) (P : Nat → Value), i < c.n → ex (c.E i) → sz c.E i ≤ N → Bld c w P →
  Calls Try.prog 31 #[.pointer (some ⟨c.bb, 0, none⟩), .int .i64 i] w fun e w' => ∃ P', e = .returned (P' i) ∧ St c w P i (i + sz c.E i) w' P'

def MadeTo (c : Ctx) (N : Nat) : Prop := ∀ (i : Nat) (w : World) (P : Nat → Value), i < c.n → ex (c.E i) → sz c.E i ≤ N → Bld c w P →
  Calls Try.prog 40 #[.pointer (some ⟨c.bb, 0, none⟩), .int .i64 i] w fun e w' => ∃ v P', e = .returned v ∧ St c w P (i + 1) (i + sz c.E i) w' P' ∧ Got c w (i + 1) (i + sz c.E i) i w' P' v

theorem Bld.drew {c : Ctx} {w : World} {P : Nat → Value} (h : Bld c w P) : Bld c w.drew P := ⟨h.b, h.p, h.t, h.ap⟩

theorem St.of_drew {c : Ctx} {w w' : World} {P P' : Nat → Value} {lo k : Nat} (h : St c w.drew P lo k w' P') : St c w P lo k w' P' :=
  ⟨⟨h.grown.os, h.grown.tape, h.grown.output, h.grown.size, h.grown.block⟩, h.bld, h.out, h.fine, h.inj⟩

theorem Got.of_drew {c : Ctx} {w w' : World} {P' : Nat → Value} {lo k i : Nat} {v : Value} (h : Got c w.drew lo k i w' P' v) : Got c w lo k i w' P' v := h

theorem Got.form {c : Ctx} {w w' : World} {P' : Nat → Value} {lo k i : Nat} {v : Value} (h : Got c w lo k i w' P' v) : ∃ T x, v = .iface T (.pointer (some ⟨x, 0, none⟩)) := by
  obtain ⟨⟨T, x, h, -⟩, -⟩ := h
  exact ⟨T, x, h⟩

set_option maxRecDepth 100000 in
theorem node_of_made (c : Ctx) (N : Nat) (hf : Fit c.E c.n) (hn : c.n ≤ 400) (hm : MadeTo c N) : NodeTo c N := by
  intro i w P hi hex hs hb
  have HM := Lib.hid (hm i w.drew P hi hex hs hb.drew)
  have HB := Lib.hid hb
  have c3 := hb.c3
  have hne := hb.ne
  have hz := (hf.2.2 i hi).pos
  clear hm hb
  go_enter Try.func31, Try.ntmps31
  go_wp2
  go_region_held3 (fun w' => w'.cell? ⟨c.bb, 3, none⟩ = some (.slice (some ⟨c.pb, 0, none⟩) c.n c.n)) (first | go_keep | exact H1.out.1.bld.c3 | exact (grown_set _ _ _).cell H1.out.1.bld.c3 (by simp; omega)) (first | (go_at_call 40; refine HM.out.mono ?_; rintro e w1 ⟨v, P1, rfl, h1, h2⟩; obtain ⟨T, x, rfl⟩ := h2.form; have H1 := Lib.hid (And.intro h1 h2); have fr := h1.bld.free i; have pl := h1.bld.place hi; have d3 := h1.bld.c3; clear h1 h2))
  go_wp2
  go_ret
  refine ⟨fun j => if j = i then _ else P1 j, ?_, (St.of_drew H1.out.1).put H1.out.2 hi (by omega) hex HB.out⟩
  exact congrArg Ending.returned (if_pos rfl).symm
/-- Numbers of places in memory, that no call of the builder writes. -/
def IntsIn (c : Ctx) (w : World) (v : Value) (l : List Nat) : Prop :=
  ∃ ao cap, v = .slice ao l.length cap ∧ l.length ≤ cap ∧ cap ≤ maxLen ∧ (l = [] ∨ ∃ g o, ao = some ⟨g, o, none⟩ ∧ g ≠ c.pb ∧ ∀ (i k : Nat), l[i]? = some k → w.cell? ⟨g, o + i, none⟩ = some (.int .i64 k))

theorem IntsIn.grown {c : Ctx} {w w' : World} {v : Value} {l : List Nat} (h : IntsIn c w v l) (hg : w.grownBy w' (some c.pb)) : IntsIn c w' v l := by
  obtain ⟨ao, cap, h1, h2, h3, h4⟩ := h
  refine ⟨ao, cap, h1, h2, h3, ?_⟩
  rcases h4 with h4 | ⟨g, o, h5, h6, h7⟩
  · exact .inl h4
  · exact .inr ⟨g, o, h5, h6, fun i k hi => hg.cell (h7 i k hi) (by simp; exact h6)⟩

theorem IntsIn.below {c : Ctx} {w w' : World} {v : Value} {l : List Nat} (h : IntsIn c w v l) (hb : Below w.heap.size w w') : IntsIn c w' v l := by
  obtain ⟨ao, cap, h1, h2, h3, h4⟩ := h
  refine ⟨ao, cap, h1, h2, h3, ?_⟩
  rcases h4 with h4 | ⟨g, o, h5, h6, h7⟩
  · exact .inl h4
  · exact .inr ⟨g, o, h5, h6, fun i k hi => cell_later hb (h7 i k hi)⟩

def ints (l : List Nat) : List Value := l.map fun (k : Nat) => Value.int .i64 (k : Int)

theorem ints_snoc (l : List Nat) (k : Nat) : ints (l ++ [k]) = ints l ++ [.int .i64 (k : Int)] := by unfold ints; rw [List.map_append]; rfl

theorem IntsIn.of_own {c : Ctx} {w : World} {B : Nat} {v : Value} {l : List Nat} (h : w.ownsRow B 3 1 v l.length (ints l)) (hB : c.pb < B) : IntsIn c w v l := by
  rcases own_form h with ⟨rfl, h2⟩ | ⟨g, cap, rfl, hg, -, h3, h4⟩
  · have : l = [] := List.length_eq_zero_iff.1 h2
    subst this
    exact ⟨none, 0, rfl, Nat.le_refl _, Nat.zero_le _, .inl rfl⟩
  · refine ⟨_, _, rfl, h3, h4, .inr ⟨g, 0, rfl, by omega, fun i k hi => ?_⟩⟩
    rw [Nat.zero_add]
    refine own_cell h rfl (List.getElem?_eq_some_iff.1 hi).1 ?_
    unfold ints
    rw [List.getElem?_map, hi]
    rfl

/-- A row stands where all blocks from its base on stand. -/
theorem own_far {w w2 : World} {B : Nat} {e : TypeId} {size n : Nat} {v : Value} {xs : List Value} (h : w.ownsRow B e size v n xs) (h2 : ∀ b, B ≤ b → b < w.heap.size → w2.heap[b]? = w.heap[b]?) : w2.ownsRow B e size v n xs := by
  refine ⟨h.1, ?_⟩
  rcases h.2 with h1 | ⟨g, cap, cur, h1, hB, hb, h4⟩
  · exact .inl h1
  · exact .inr ⟨g, cap, cur, h1, hB, (h2 g hB (lt_of_block hb)).trans hb, h4⟩

theorem IntsIn.form {c : Ctx} {w : World} {v : Value} {l : List Nat} (h : IntsIn c w v l) : ∃ ao cap, v = .slice ao l.length cap := by
  obtain ⟨ao, cap, h1, -⟩ := h
  exact ⟨ao, cap, h1⟩

theorem infoInt : (Try.prog.info? 3).map (fun i => (i.zero, i.size, i.bytes)) = some (some (.int .i64 0), 1, 8) := by kernel_rfl

set_option maxRecDepth 100000 in
theorem kids_any (c : Ctx) (i : Nat) (w : World) (P : Nat → Value) (hf : Fit c.E c.n) (hn : c.n ≤ 400) (hi : i < c.n) (hb : Bld c w P) :
    Calls Try.prog 43 #[.pointer (some ⟨c.bb, 0, none⟩), .int .i64 i] w fun e w' => ∃ v, e = .returned v ∧ (∀ w2 : World, (∀ b, w.heap.size ≤ b → b < w'.heap.size → w2.heap[b]? = w'.heap[b]?) → IntsIn c w2 v (kids c.E i)) ∧ Below w.heap.size w w' := by
  have HF := Lib.hid (hf.2.2 i hi).kin
  have HA := Lib.hid hf.2.2
  have HB := Lib.hid hb
  have hsz := (hf.2.2 i hi).2.1
  have hsz1 := (hf.2.2 i hi).1
  have hse := (hf.2.2 i hi).size
  have hpb := hb.ltp
  clear hb hf
  go_enter Try.func43, Try.ntmps43
  go_wp2_with fail
  go_loopw [5, 6] (fun v k wr => ∃ (l l' : List Nat) (m : Nat), Kin (sz c.E) (i + 1) m l ∧ Kin (sz c.E) m (i + sz c.E i) l' ∧ kids c.E i = l ++ l' ∧ k = .int .i64 m ∧ wr.ownsRow w.heap.size 3 1 v l.length (ints l) ∧ Below w.heap.size w wr) (fun _ k _ => i + sz c.E i - (intOf k).toNat)
  case atStart => exact ⟨[], kids c.E i, i + 1, .nil _, HF.out, rfl, by simp, World.ownsRow_nil _ _ _ _, Below.refl _ _⟩
  case round =>
    obtain ⟨l, l', m, k1, k2, hl, rfl, hrow, hbel⟩ := hrel
    have HR := Lib.hid hrow
    have HBr := Lib.hid (HB.out.below hbel)
    have hsr := hbel.size
    have c0 := HBr.out.c0
    obtain ⟨-, -, -, -, q4⟩ := HBr.out.t i hi
    have hle := k2.le
    rw [hse] at q4
    clear hrow
    by_cases hlt : m < i + sz c.E i
    · obtain ⟨l2, rfl⟩ := k2.head hlt
      obtain ⟨-, z1, z2, k3⟩ := k2.cons_inv
      have hm : m < c.n := by omega
      have hsm := (HA.out m hm).size
      obtain ⟨-, -, -, -, r4⟩ := HBr.out.t m hm
      rw [hsm] at r4
      have hlen := k1.len
      have KK := Lib.hid (And.intro k1 (And.intro k3 hl))
      clear k1 k2 k3 hl
      obtain ⟨ao, cp, rfl⟩ := owns_slice HR.out
      go_wp2_with (at_builtin; refine wpList_append_run rfl (.tmp 31) (.tmp 33) 25 rfl (app1 (wr := wr) (B := w.heap.size) 25 25 3 Try.underlying25 infoInt rfl HR.out hsr (grown_of_below (by go_grown)) (by omega) (by omega) (.int .i64 m) rfl _ _ (cell_at_new (by simp))) ?_; rintro v1 w2 ⟨hown2, hg, hbb⟩; have HO2 := Lib.hid hown2; have HG2 := Lib.hid hg; have HBB := Lib.hid hbb; clear hown2 hg hbb; have hb2 := (hbel.alloc hsr _).grown HG2.out (by simp; omega) (fun b hb => (HBB.out b hb).1); have HB2 := Lib.hid (HB.out.below hb2); have d0 := HB2.out.c0; obtain ⟨-, -, -, -, d4⟩ := HB2.out.t m hm; rw [hsm] at d4)
      go_roundw
      case rel =>
        obtain ⟨k1, k3, hl⟩ := KK.out
        exact ⟨l ++ [m], l2, m + sz c.E m, k1.snoc z1, k3, by rw [hl]; simp, by go_num, by rw [List.length_append, ints_snoc]; exact HO2.out, hb2⟩
      case measure => first | (simp [intOf]; done) | (simp [intOf]; omega)
    · obtain rfl : m = i + sz c.E i := by omega
      have h0 : l' = [] := by
        have := k2.len
        exact List.length_eq_zero_iff.1 (by omega)
      subst h0
      rw [List.append_nil] at hl
      have HL := Lib.hid hl
      clear hl k1 k2
      go_wp2
      go_ret
      refine ⟨_, rfl, fun w2 h2 => ?_, hbel⟩
      rw [HL.out]
      exact IntsIn.of_own (own_far HR.out h2) hpb
end Go.Proofs.Ytkpfbgeaodopoaa.fnDirect
