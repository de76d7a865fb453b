/-
  FnDirect: the builder's made.
-/
import Derived.Test.YtkpfbgeaodopoaaDirLeaf
namespace Go.Proofs.Ytkpfbgeaodopoaa.fnDirect
open Go.RowKit
set_option linter.unusedSimpArgs false
set_option linter.unusedVariables false

/-- both, sugar, of nodes that are small enough: what they make. -/
def MakeTo (f : Nat) (ks : List Int) (c : Ctx) (N : Nat) : Prop := ∀ (i : Nat) (lv : Value) (w : World) (P : Nat → Value), i < c.n → (c.E i).kind ∈ ks → ((c.E i).kind = 9 → (c.E i).flag = 0) → sz c.E i ≤ N → Bld c w P → IntsIn c w lv (kids c.E i) →
  Calls Try.prog f #[.pointer (some ⟨c.bb, 0, none⟩), (c.E i).v, lv] w fun e w' => ∃ v P', e = .returned v ∧ St c w P (i + 1) (i + sz c.E i) w' P' ∧ Got c w (i + 1) (i + sz c.E i) i w' P' v

def bothK : List Int := [9, 10, 11, 15, 18, 19, 20, 21, 22, 23, 24]
def sugarK : List Int := [12, 13, 14, 16, 17, 25, 29, 30]

theorem St.from_below {c : Ctx} {w w0 w' : World} {P P' : Nat → Value} {lo k : Nat} (h : St c w0 P lo k w' P') (hb : Below w.heap.size w w0) : St c w P lo k w' P' := by
  have hs := hb.size
  refine ⟨((grown_of_below hb).but (some c.pb)).andThen h.grown (fun j hj => .inr hj), h.bld, h.out, fun i h1 h2 h3 => ?_, h.inj⟩
  obtain ⟨T, x, e1, e2, e3, e4, e5⟩ := h.fine i h1 h2 h3
  exact ⟨T, x, e1, e2, by omega, e4, e5⟩

theorem Got.from_below {c : Ctx} {w w0 w' : World} {P' : Nat → Value} {lo k i : Nat} {v : Value} (h : Got c w0 lo k i w' P' v) (hb : Below w.heap.size w w0) : Got c w lo k i w' P' v := by
  have hs := hb.size
  obtain ⟨⟨T, x, e1, e2, e3, e4, e5⟩, h2⟩ := h
  exact ⟨⟨T, x, e1, e2, by omega, e4, e5⟩, h2⟩

/-- A kind among few has no other one's number. -/
theorem kind_ne {k : Int} {ks : List Int} (h : k ∈ ks) {q : Int} (hq : ks.contains q = false) : k ≠ q := by
  rintro rfl
  simp at hq
  exact hq h

/-- A variable that was made ahead of a call that writes nothing that was there. -/
theorem kept_new {w w1 : World} {C : Array Value} {t : TypeId} {n : Nat} (h : Below (w.alloc (.cells C t)).drew.heap.size (w.alloc (.cells C t)).drew w1) (hn : w.heap.size = n) :
    w1.heap[n]? = some (.cells C t (0, 0)) := by
  subst hn
  rw [h.block _ (by simp [World.drew])]
  exact heap_alloc_new w _

theorem cell_drew {w : World} {a : Addr} {v : Value} (h : w.cell? a = some v) : w.drew.cell? a = some v := h

/-- What kids hands back, and where it stands. -/
def Far (c : Ctx) (B : Nat) (w' : World) (v : Value) (l : List Nat) : Prop := ∀ w2 : World, (∀ b, B ≤ b → b < w'.heap.size → w2.heap[b]? = w'.heap[b]?) → IntsIn c w2 v l

/-- The variable n of '.., k := b.t[at], b.kids(at)', and what has been made till then. -/
def Var (c : Ctx) (v : Value) (l : List Nat) (w W : World) (nb : Nat) (x : Nd) : Prop :=
  IntsIn c W v l ∧ Below w.heap.size w W ∧ w.heap.size ≤ nb ∧ W.heap[nb]? = some (.cells #[.int .i64 x.kind, .int .i64 x.op, .string x.text, .int .i64 x.flag, .int .i64 x.size] 28 (0, 0))

theorem var2 {c : Ctx} {w w1 : World} {x : Nd} {B : Nat} {v : Value} {l : List Nat} (h : Below w.heap.size w w1) (hf : Far c B w1 v l) : Var c v l w (w1.alloc (.cells #[.int .i64 x.kind, .int .i64 x.op, .string x.text, .int .i64 x.flag, .int .i64 x.size] 28)) w1.heap.size x :=
  ⟨hf _ (fun b _ hb => (Below.alloc (Below.refl w1.heap.size w1) (Nat.le_refl _) _).block b hb), h.alloc h.size _, h.size, block_new _ _⟩

theorem var3 {ct : Ctx} {w w1 : World} {x : Nd} {a b c d e : Value} {B : Nat} {v : Value} {l : List Nat} (h : Below w.heap.size w w1) (hf : Far ct B w1 v l) (hz : w1.heap[w.heap.size]? = some (.cells #[a, b, c, d, e] 28 (0, 0))) (hB : w.heap.size < B) :
    Var ct v l w (((((w1.setCell ⟨w.heap.size, 0, none⟩ (.int .i64 x.kind)).setCell ⟨w.heap.size, 1, none⟩ (.int .i64 x.op)).setCell ⟨w.heap.size, 2, none⟩ (.string x.text)).setCell ⟨w.heap.size, 3, none⟩ (.int .i64 x.flag)).setCell ⟨w.heap.size, 4, none⟩ (.int .i64 x.size)) w.heap.size x := by
  refine ⟨hf _ (fun k hk _ => ?_), ?_, Nat.le_refl _, ?_⟩
  · have hne : k ≠ w.heap.size := by omega
    rw [Below.heap_setCell _ _ _ _ hne, Below.heap_setCell _ _ _ _ hne, Below.heap_setCell _ _ _ _ hne, Below.heap_setCell _ _ _ _ hne, Below.heap_setCell _ _ _ _ hne]
  · exact ((((h.setCell (Nat.le_refl _) _).setCell (Nat.le_refl _) _).setCell (Nat.le_refl _) _).setCell (Nat.le_refl _) _).setCell (Nat.le_refl _) _
  · have := block_setCell (i := 4) (u := .int .i64 x.size) (block_setCell (i := 3) (u := .int .i64 x.flag) (block_setCell (i := 2) (u := .string x.text) (block_setCell (i := 1) (u := .int .i64 x.op) (block_setCell (i := 0) (u := .int .i64 x.kind) hz))))
    simpa using this

theorem past5 {w : World} {n : Nat} {a b c d e v : Value} {ad : Addr} (h : w.cell? ad = some v) (hne : n ≠ ad.block) : (((((w.setCell ⟨n, 0, none⟩ a).setCell ⟨n, 1, none⟩ b).setCell ⟨n, 2, none⟩ c).setCell ⟨n, 3, none⟩ d).setCell ⟨n, 4, none⟩ e).cell? ad = some v := by
  have hne' : some ad.block ≠ some n := by simp; omega
  exact (grown_set _ _ _).cell ((grown_set _ _ _).cell ((grown_set _ _ _).cell ((grown_set _ _ _).cell ((grown_set _ _ _).cell h hne') hne') hne') hne') hne'

theorem cells5 {w : World} {n : Nat} {a b c d e : Value} {t : TypeId} (h : w.heap[n]? = some (.cells #[a, b, c, d, e] t (0, 0))) :
    w.cell? ⟨n, 0, none⟩ = some a ∧ w.cell? ⟨n, 1, none⟩ = some b ∧ w.cell? ⟨n, 2, none⟩ = some c ∧ w.cell? ⟨n, 3, none⟩ = some d ∧ w.cell? ⟨n, 4, none⟩ = some e ∧
    w.frozen? ⟨n, 0, none⟩ = false ∧ w.frozen? ⟨n, 1, none⟩ = false ∧ w.frozen? ⟨n, 2, none⟩ = false ∧ w.frozen? ⟨n, 3, none⟩ = false ∧ w.frozen? ⟨n, 4, none⟩ = false :=
  ⟨cell_of_block h (i := 0) rfl, cell_of_block h (i := 1) rfl, cell_of_block h (i := 2) rfl, cell_of_block h (i := 3) rfl, cell_of_block h (i := 4) rfl, free_of_block (i := 0) h, free_of_block (i := 1) h, free_of_block (i := 2) h, free_of_block (i := 3) h, free_of_block (i := 4) h⟩

set_option maxRecDepth 100000 in
set_option maxHeartbeats 3200000 in
theorem made_leaf (c : Ctx) (i : Nat) (w : World) (P : Nat → Value) (hf : Fit c.E c.n) (hn : c.n ≤ 400) (hi : i < c.n) (hb : Bld c w P) (hk : (c.E i).kind ∈ [(1 : Int), 2, 3, 4, 5, 6, 7, 8, 26, 27, 28]) (hl : kids c.E i = []) :
    Calls Try.prog 40 #[.pointer (some ⟨c.bb, 0, none⟩), .int .i64 i] w fun e w' => ∃ v P', e = .returned v ∧ St c w P (i + 1) (i + sz c.E i) w' P' ∧ Got c w (i + 1) (i + sz c.E i) i w' P' v := by
  have HB := Lib.hid hb
  have HF := Lib.hid hf
  have HK := Lib.hid hk
  have HL := Lib.hid hl
  have c0 := hb.c0
  obtain ⟨q0, q1, q2, q3, q4⟩ := hb.t i hi
  clear hb hf hk hl
  go_enter Try.func40, Try.ntmps40
  go_wp2
  go_region_held3 (fun w' => w'.cell? ⟨c.bb, 0, none⟩ = some (.slice (some c.a) c.n c.cap) ∧ w'.cell? (c.a.add (i * 5)) = some (.int .i64 (c.E i).kind) ∧ w'.cell? ⟨(c.a.add (i * 5)).block, (c.a.add (i * 5)).off + 1, none⟩ = some (.int .i64 (c.E i).op) ∧ w'.cell? ⟨(c.a.add (i * 5)).block, (c.a.add (i * 5)).off + 2, none⟩ = some (.string (c.E i).text) ∧ w'.cell? ⟨(c.a.add (i * 5)).block, (c.a.add (i * 5)).off + 3, none⟩ = some (.int .i64 (c.E i).flag) ∧ w'.cell? ⟨(c.a.add (i * 5)).block, (c.a.add (i * 5)).off + 4, none⟩ = some (.int .i64 (c.E i).size)) (first | with_reducible exact ⟨c0, q0, q1, q2, q3, q4⟩ | with_reducible exact ⟨cell_past _ c0, cell_past _ q0, cell_past _ q1, cell_past _ q2, cell_past _ q3, cell_past _ q4⟩ | with_reducible exact ⟨past5 (cell_later hb1 c0) n2, past5 (cell_later hb1 q0) n3, past5 (cell_later hb1 q1) n3, past5 (cell_later hb1 q2) n3, past5 (cell_later hb1 q3) n3, past5 (cell_later hb1 q4) n3⟩ | with_reducible exact ⟨cell_later hb1 c0, cell_later hb1 q0, cell_later hb1 q1, cell_later hb1 q2, cell_later hb1 q3, cell_later hb1 q4⟩ | with_reducible exact ⟨cell_past _ (cell_later hb1 c0), cell_past _ (cell_later hb1 q0), cell_past _ (cell_later hb1 q1), cell_past _ (cell_later hb1 q2), cell_past _ (cell_later hb1 q3), cell_past _ (cell_later hb1 q4)⟩ | with_reducible exact ⟨cell_drew c0, cell_drew q0, cell_drew q1, cell_drew q2, cell_drew q3, cell_drew q4⟩ | with_reducible exact ⟨cell_drew (cell_past _ c0), cell_drew (cell_past _ q0), cell_drew (cell_past _ q1), cell_drew (cell_past _ q2), cell_drew (cell_past _ q3), cell_drew (cell_past _ q4)⟩) (first | (go_at_call 43; refine (kids_any c i _ P HF.out hn hi (HB.out.below (by go_grown))).mono ?_; rintro e w1 ⟨v, rfl, h1, h2⟩; have hb1 : Below w.heap.size w w1 := below_step (Nat.le_refl _) (by go_grown) h2; have n0 := World.new_ne w1 _ (cell_later hb1 c0); have n1 := World.new_ne w1 _ (cell_later hb1 q0); obtain ⟨ao, cap, rfl⟩ := (h1 _ (fun _ _ _ => rfl)).form; have HI := Lib.hid (show Far c _ w1 _ (kids c.E i) from h1); clear h1; (try (have hz := kept_new h2 (n := w.heap.size) rfl; obtain ⟨z0, z1, z2, z3, z4, y0, y1, y2, y3, y4⟩ := cells5 hz; have n2 := World.new_ne w _ c0; have n3 := World.new_ne w _ q0))))
  all_goals
    obtain ⟨W, nb, hW, hnb, HV⟩ : ∃ W nb, W = _ ∧ nb = _ ∧ Hid (Var c (.slice ao (kids c.E i).length cap) (kids c.E i) w W nb (c.E i)) := by first | exact ⟨_, _, rfl, rfl, Lib.hid (var3 (x := c.E i) hb1 HI.out hz (by simp))⟩ | exact ⟨_, _, rfl, rfl, Lib.hid (var2 (x := c.E i) hb1 HI.out)⟩
    rw [← hW]
    rw [← hnb]
    clear hW hnb
    have hlen : (kids c.E i).length = 0 := by rw [HL.out]; rfl
    obtain ⟨z0, z1, z2, z3, z4, y0, y1, y2, y3, y4⟩ := cells5 HV.out.2.2.2
    go_wp2_with (first | (go_at_call 44; refine (leaf_yes c (c.E i) _ P (HB.out.below HV.out.2.1) HK.out).mono ?_; rintro e w2 ⟨v, T, rfl, hN, hT, hb2⟩; obtain ⟨y, rfl, hN2⟩ := hN))
    go_ret
    have hbw : Below w.heap.size w w2 := below_step (Nat.le_refl _) HV.out.2.1 hb2
    have he : i + 1 = i + sz c.E i := by
      have := (HF.out.2.2 i hi).kin
      rw [HL.out] at this
      exact this.nil_inv
    rw [← he]
    refine ⟨_, P, rfl, (St.refl HB.out (i + 1)).below hbw, ⟨T, y, rfl, hN2.1, Nat.le_trans HV.out.2.1.size hN2.2.1, hN2.2.2, fun T0 S0 F hd => ?_, hT⟩, fun j _ _ _ h1 h2 => by omega⟩
    have HK2 := HK.out
    simp only [List.mem_cons, List.not_mem_nil, or_false] at HK2
    rcases HK2 with e | e | e | e | e | e | e | e | e | e | e
    all_goals (rw [e] at hd; simp [dirT] at hd)

set_option maxRecDepth 100000 in
set_option maxHeartbeats 3200000 in
theorem made_super (c : Ctx) (i : Nat) (w : World) (P : Nat → Value) (hf : Fit c.E c.n) (hn : c.n ≤ 400) (hi : i < c.n) (hb : Bld c w P) (hk : (c.E i).kind = 9) (hg : (c.E i).flag = 1) (hl : kids c.E i = []) :
    Calls Try.prog 40 #[.pointer (some ⟨c.bb, 0, none⟩), .int .i64 i] w fun e w' => ∃ v P', e = .returned v ∧ St c w P (i + 1) (i + sz c.E i) w' P' ∧ Got c w (i + 1) (i + sz c.E i) i w' P' v := by
  have HB := Lib.hid hb
  have HF := Lib.hid hf
  have HK := Lib.hid hk
  have HG := Lib.hid hg
  have HL := Lib.hid hl
  have c0 := hb.c0
  obtain ⟨q0, q1, q2, q3, q4⟩ := hb.t i hi
  clear hb hf hk hl hg
  go_enter Try.func40, Try.ntmps40
  go_wp2
  go_region_held3 (fun w' => w'.cell? ⟨c.bb, 0, none⟩ = some (.slice (some c.a) c.n c.cap) ∧ w'.cell? (c.a.add (i * 5)) = some (.int .i64 (c.E i).kind) ∧ w'.cell? ⟨(c.a.add (i * 5)).block, (c.a.add (i * 5)).off + 1, none⟩ = some (.int .i64 (c.E i).op) ∧ w'.cell? ⟨(c.a.add (i * 5)).block, (c.a.add (i * 5)).off + 2, none⟩ = some (.string (c.E i).text) ∧ w'.cell? ⟨(c.a.add (i * 5)).block, (c.a.add (i * 5)).off + 3, none⟩ = some (.int .i64 (c.E i).flag) ∧ w'.cell? ⟨(c.a.add (i * 5)).block, (c.a.add (i * 5)).off + 4, none⟩ = some (.int .i64 (c.E i).size)) (first | with_reducible exact ⟨c0, q0, q1, q2, q3, q4⟩ | with_reducible exact ⟨cell_past _ c0, cell_past _ q0, cell_past _ q1, cell_past _ q2, cell_past _ q3, cell_past _ q4⟩ | with_reducible exact ⟨past5 (cell_later hb1 c0) n2, past5 (cell_later hb1 q0) n3, past5 (cell_later hb1 q1) n3, past5 (cell_later hb1 q2) n3, past5 (cell_later hb1 q3) n3, past5 (cell_later hb1 q4) n3⟩ | with_reducible exact ⟨cell_later hb1 c0, cell_later hb1 q0, cell_later hb1 q1, cell_later hb1 q2, cell_later hb1 q3, cell_later hb1 q4⟩ | with_reducible exact ⟨cell_past _ (cell_later hb1 c0), cell_past _ (cell_later hb1 q0), cell_past _ (cell_later hb1 q1), cell_past _ (cell_later hb1 q2), cell_past _ (cell_later hb1 q3), cell_past _ (cell_later hb1 q4)⟩ | with_reducible exact ⟨cell_drew c0, cell_drew q0, cell_drew q1, cell_drew q2, cell_drew q3, cell_drew q4⟩ | with_reducible exact ⟨cell_drew (cell_past _ c0), cell_drew (cell_past _ q0), cell_drew (cell_past _ q1), cell_drew (cell_past _ q2), cell_drew (cell_past _ q3), cell_drew (cell_past _ q4)⟩) (first | (go_at_call 43; refine (kids_any c i _ P HF.out hn hi (HB.out.below (by go_grown))).mono ?_; rintro e w1 ⟨v, rfl, h1, h2⟩; have hb1 : Below w.heap.size w w1 := below_step (Nat.le_refl _) (by go_grown) h2; have n0 := World.new_ne w1 _ (cell_later hb1 c0); have n1 := World.new_ne w1 _ (cell_later hb1 q0); obtain ⟨ao, cap, rfl⟩ := (h1 _ (fun _ _ _ => rfl)).form; have HI := Lib.hid (show Far c _ w1 _ (kids c.E i) from h1); clear h1; (try (have hz := kept_new h2 (n := w.heap.size) rfl; obtain ⟨z0, z1, z2, z3, z4, y0, y1, y2, y3, y4⟩ := cells5 hz; have n2 := World.new_ne w _ c0; have n3 := World.new_ne w _ q0))))
  all_goals
    obtain ⟨W, nb, hW, hnb, HV⟩ : ∃ W nb, W = _ ∧ nb = _ ∧ Hid (Var c (.slice ao (kids c.E i).length cap) (kids c.E i) w W nb (c.E i)) := by first | exact ⟨_, _, rfl, rfl, Lib.hid (var3 (x := c.E i) hb1 HI.out hz (by simp))⟩ | exact ⟨_, _, rfl, rfl, Lib.hid (var2 (x := c.E i) hb1 HI.out)⟩
    rw [← hW]
    rw [← hnb]
    clear hW hnb
    have hlen : (kids c.E i).length = 0 := by rw [HL.out]; rfl
    obtain ⟨z0, z1, z2, z3, z4, y0, y1, y2, y3, y4⟩ := cells5 HV.out.2.2.2
    go_wp2_with (first | (go_at_call 44; refine (leaf_super c (c.E i) _ P (HB.out.below HV.out.2.1) HK.out HG.out).mono ?_; rintro e w2 ⟨v, T, rfl, hN, hb2⟩; obtain ⟨y, rfl, hN2⟩ := hN))
    go_ret
    have hbw : Below w.heap.size w w2 := below_step (Nat.le_refl _) HV.out.2.1 hb2
    have he : i + 1 = i + sz c.E i := by
      have := (HF.out.2.2 i hi).kin
      rw [HL.out] at this
      exact this.nil_inv
    rw [← he]
    refine ⟨_, P, rfl, (St.refl HB.out (i + 1)).below hbw, ⟨T, y, rfl, hN2.1, Nat.le_trans HV.out.2.1.size hN2.2.1, hN2.2.2, fun T0 S0 F hd => by rw [HK.out] at hd; simp [dirT] at hd, fun T0 hd => by rw [HK.out] at hd; simp [leafT] at hd⟩, fun j _ _ _ h1 h2 => by omega⟩

set_option maxRecDepth 100000 in
theorem both_no (c : Ctx) (x : Nd) (lv : Value) (w : World) (h : x.kind ∉ bothK) :
    Calls Try.prog 46 #[.pointer (some ⟨c.bb, 0, none⟩), x.v, lv] w fun e w' => e = .returned .nilIface ∧ Below w.heap.size w w' := by
  obtain ⟨kind, op, text, flag, size⟩ := x
  simp only [Nd.v] at *
  simp only [bothK, List.mem_cons, List.not_mem_nil, or_false, not_or] at h
  obtain ⟨n1, n2, n3, n4, n5, n6, n7, n8, n26, n27, n28⟩ := h
  go_enter Try.func46, Try.ntmps46
  go_wp2
  go_ret
  exact ⟨rfl, by go_grown⟩

set_option maxRecDepth 100000 in
set_option maxHeartbeats 3200000 in
theorem made_both (c : Ctx) (i : Nat) (w : World) (P : Nat → Value) (hf : Fit c.E c.n) (hn : c.n ≤ 400) (hi : i < c.n) (hb : Bld c w P) (N : Nat) (hM : MakeTo 46 bothK c N) (hk : (c.E i).kind ∈ bothK) (h9 : (c.E i).kind = 9 → (c.E i).flag = 0) (hs : sz c.E i ≤ N) :
    Calls Try.prog 40 #[.pointer (some ⟨c.bb, 0, none⟩), .int .i64 i] w fun e w' => ∃ v P', e = .returned v ∧ St c w P (i + 1) (i + sz c.E i) w' P' ∧ Got c w (i + 1) (i + sz c.E i) i w' P' v := by
  have HB := Lib.hid hb
  have HF := Lib.hid hf
  have HK := Lib.hid hk
  have HM := Lib.hid hM
  have H9 := Lib.hid h9
  have HNL : Hid _ := Lib.hid (fun h => by simp only [bothK, List.mem_cons, List.not_mem_nil, or_false] at hk h; omega : (c.E i).kind ∉ [(1 : Int), 2, 3, 4, 5, 6, 7, 8, 26, 27, 28])
  have c0 := hb.c0
  obtain ⟨q0, q1, q2, q3, q4⟩ := hb.t i hi
  clear hb hf hk hM h9
  go_enter Try.func40, Try.ntmps40
  go_wp2
  go_region_held3 (fun w' => w'.cell? ⟨c.bb, 0, none⟩ = some (.slice (some c.a) c.n c.cap) ∧ w'.cell? (c.a.add (i * 5)) = some (.int .i64 (c.E i).kind) ∧ w'.cell? ⟨(c.a.add (i * 5)).block, (c.a.add (i * 5)).off + 1, none⟩ = some (.int .i64 (c.E i).op) ∧ w'.cell? ⟨(c.a.add (i * 5)).block, (c.a.add (i * 5)).off + 2, none⟩ = some (.string (c.E i).text) ∧ w'.cell? ⟨(c.a.add (i * 5)).block, (c.a.add (i * 5)).off + 3, none⟩ = some (.int .i64 (c.E i).flag) ∧ w'.cell? ⟨(c.a.add (i * 5)).block, (c.a.add (i * 5)).off + 4, none⟩ = some (.int .i64 (c.E i).size)) (first | with_reducible exact ⟨c0, q0, q1, q2, q3, q4⟩ | with_reducible exact ⟨cell_past _ c0, cell_past _ q0, cell_past _ q1, cell_past _ q2, cell_past _ q3, cell_past _ q4⟩ | with_reducible exact ⟨past5 (cell_later hb1 c0) n2, past5 (cell_later hb1 q0) n3, past5 (cell_later hb1 q1) n3, past5 (cell_later hb1 q2) n3, past5 (cell_later hb1 q3) n3, past5 (cell_later hb1 q4) n3⟩ | with_reducible exact ⟨cell_later hb1 c0, cell_later hb1 q0, cell_later hb1 q1, cell_later hb1 q2, cell_later hb1 q3, cell_later hb1 q4⟩ | with_reducible exact ⟨cell_past _ (cell_later hb1 c0), cell_past _ (cell_later hb1 q0), cell_past _ (cell_later hb1 q1), cell_past _ (cell_later hb1 q2), cell_past _ (cell_later hb1 q3), cell_past _ (cell_later hb1 q4)⟩ | with_reducible exact ⟨cell_drew c0, cell_drew q0, cell_drew q1, cell_drew q2, cell_drew q3, cell_drew q4⟩ | with_reducible exact ⟨cell_drew (cell_past _ c0), cell_drew (cell_past _ q0), cell_drew (cell_past _ q1), cell_drew (cell_past _ q2), cell_drew (cell_past _ q3), cell_drew (cell_past _ q4)⟩) (first | (go_at_call 43; refine (kids_any c i _ P HF.out hn hi (HB.out.below (by go_grown))).mono ?_; rintro e w1 ⟨v, rfl, h1, h2⟩; have hb1 : Below w.heap.size w w1 := below_step (Nat.le_refl _) (by go_grown) h2; have n0 := World.new_ne w1 _ (cell_later hb1 c0); have n1 := World.new_ne w1 _ (cell_later hb1 q0); obtain ⟨ao, cap, rfl⟩ := (h1 _ (fun _ _ _ => rfl)).form; have HI := Lib.hid (show Far c _ w1 _ (kids c.E i) from h1); clear h1; (try (have hz := kept_new h2 (n := w.heap.size) rfl; obtain ⟨z0, z1, z2, z3, z4, y0, y1, y2, y3, y4⟩ := cells5 hz; have n2 := World.new_ne w _ c0; have n3 := World.new_ne w _ q0))))
  all_goals
    obtain ⟨W, nb, hW, hnb, HV⟩ : ∃ W nb, W = _ ∧ nb = _ ∧ Hid (Var c (.slice ao (kids c.E i).length cap) (kids c.E i) w W nb (c.E i)) := by first | exact ⟨_, _, rfl, rfl, Lib.hid (var3 (x := c.E i) hb1 HI.out hz (by simp))⟩ | exact ⟨_, _, rfl, rfl, Lib.hid (var2 (x := c.E i) hb1 HI.out)⟩
    rw [← hW]
    rw [← hnb]
    clear hW hnb
    obtain ⟨z0, z1, z2, z3, z4, y0, y1, y2, y3, y4⟩ := cells5 HV.out.2.2.2
    have HNO := Lib.hid (leaf_no c (c.E i) W P (HB.out.below HV.out.2.1) (HNL.out) H9.out)
    go_wp2_with (first | (go_at_call 44; refine (HNO.out).mono ?_; rintro e w2 ⟨rfl, hb2⟩; have hbw : Below w.heap.size w w2 := below_step (Nat.le_refl _) HV.out.2.1 hb2; have x0 := cell_later hb2 z0; have x1 := cell_later hb2 z1; have x2 := cell_later hb2 z2; have x3 := cell_later hb2 z3; have x4 := cell_later hb2 z4) | (go_at_call 46; refine (HM.out i _ _ P hi HK.out H9.out hs (HB.out.below hbw) (HV.out.1.below hb2)).mono ?_; rintro e w3 ⟨v, P1, rfl, h1, h2⟩; obtain ⟨T, y, rfl⟩ := h2.form; have H1 := Lib.hid (And.intro h1 h2); clear h1 h2))
    go_ret
    exact ⟨_, _, rfl, H1.out.1.from_below hbw, H1.out.2.from_below hbw⟩

set_option maxRecDepth 100000 in
set_option maxHeartbeats 3200000 in
theorem made_sugar (c : Ctx) (i : Nat) (w : World) (P : Nat → Value) (hf : Fit c.E c.n) (hn : c.n ≤ 400) (hi : i < c.n) (hb : Bld c w P) (N : Nat) (hM : MakeTo 48 sugarK c N) (hk : (c.E i).kind ∈ sugarK) (hs : sz c.E i ≤ N) :
    Calls Try.prog 40 #[.pointer (some ⟨c.bb, 0, none⟩), .int .i64 i] w fun e w' => ∃ v P', e = .returned v ∧ St c w P (i + 1) (i + sz c.E i) w' P' ∧ Got c w (i + 1) (i + sz c.E i) i w' P' v := by
  have HB := Lib.hid hb
  have HF := Lib.hid hf
  have HK := Lib.hid hk
  have HM := Lib.hid hM
  have HN9 : Hid _ := Lib.hid (fun h => by simp only [sugarK, List.mem_cons, List.not_mem_nil, or_false] at hk; omega : ¬ (c.E i).kind = 9)
  have HNL : Hid _ := Lib.hid (fun h => by simp only [sugarK, List.mem_cons, List.not_mem_nil, or_false] at hk h; omega : (c.E i).kind ∉ [(1 : Int), 2, 3, 4, 5, 6, 7, 8, 26, 27, 28])
  have HNB : Hid _ := Lib.hid (fun h => by simp only [sugarK, bothK, List.mem_cons, List.not_mem_nil, or_false] at hk h; omega : (c.E i).kind ∉ bothK)
  have c0 := hb.c0
  obtain ⟨q0, q1, q2, q3, q4⟩ := hb.t i hi
  clear hb hf hk hM
  go_enter Try.func40, Try.ntmps40
  go_wp2
  go_region_held3 (fun w' => w'.cell? ⟨c.bb, 0, none⟩ = some (.slice (some c.a) c.n c.cap) ∧ w'.cell? (c.a.add (i * 5)) = some (.int .i64 (c.E i).kind) ∧ w'.cell? ⟨(c.a.add (i * 5)).block, (c.a.add (i * 5)).off + 1, none⟩ = some (.int .i64 (c.E i).op) ∧ w'.cell? ⟨(c.a.add (i * 5)).block, (c.a.add (i * 5)).off + 2, none⟩ = some (.string (c.E i).text) ∧ w'.cell? ⟨(c.a.add (i * 5)).block, (c.a.add (i * 5)).off + 3, none⟩ = some (.int .i64 (c.E i).flag) ∧ w'.cell? ⟨(c.a.add (i * 5)).block, (c.a.add (i * 5)).off + 4, none⟩ = some (.int .i64 (c.E i).size)) (first | with_reducible exact ⟨c0, q0, q1, q2, q3, q4⟩ | with_reducible exact ⟨cell_past _ c0, cell_past _ q0, cell_past _ q1, cell_past _ q2, cell_past _ q3, cell_past _ q4⟩ | with_reducible exact ⟨past5 (cell_later hb1 c0) n2, past5 (cell_later hb1 q0) n3, past5 (cell_later hb1 q1) n3, past5 (cell_later hb1 q2) n3, past5 (cell_later hb1 q3) n3, past5 (cell_later hb1 q4) n3⟩ | with_reducible exact ⟨cell_later hb1 c0, cell_later hb1 q0, cell_later hb1 q1, cell_later hb1 q2, cell_later hb1 q3, cell_later hb1 q4⟩ | with_reducible exact ⟨cell_past _ (cell_later hb1 c0), cell_past _ (cell_later hb1 q0), cell_past _ (cell_later hb1 q1), cell_past _ (cell_later hb1 q2), cell_past _ (cell_later hb1 q3), cell_past _ (cell_later hb1 q4)⟩ | with_reducible exact ⟨cell_drew c0, cell_drew q0, cell_drew q1, cell_drew q2, cell_drew q3, cell_drew q4⟩ | with_reducible exact ⟨cell_drew (cell_past _ c0), cell_drew (cell_past _ q0), cell_drew (cell_past _ q1), cell_drew (cell_past _ q2), cell_drew (cell_past _ q3), cell_drew (cell_past _ q4)⟩) (first | (go_at_call 43; refine (kids_any c i _ P HF.out hn hi (HB.out.below (by go_grown))).mono ?_; rintro e w1 ⟨v, rfl, h1, h2⟩; have hb1 : Below w.heap.size w w1 := below_step (Nat.le_refl _) (by go_grown) h2; have n0 := World.new_ne w1 _ (cell_later hb1 c0); have n1 := World.new_ne w1 _ (cell_later hb1 q0); obtain ⟨ao, cap, rfl⟩ := (h1 _ (fun _ _ _ => rfl)).form; have HI := Lib.hid (show Far c _ w1 _ (kids c.E i) from h1); clear h1; (try (have hz := kept_new h2 (n := w.heap.size) rfl; obtain ⟨z0, z1, z2, z3, z4, y0, y1, y2, y3, y4⟩ := cells5 hz; have n2 := World.new_ne w _ c0; have n3 := World.new_ne w _ q0))))
  all_goals
    obtain ⟨W, nb, hW, hnb, HV⟩ : ∃ W nb, W = _ ∧ nb = _ ∧ Hid (Var c (.slice ao (kids c.E i).length cap) (kids c.E i) w W nb (c.E i)) := by first | exact ⟨_, _, rfl, rfl, Lib.hid (var3 (x := c.E i) hb1 HI.out hz (by simp))⟩ | exact ⟨_, _, rfl, rfl, Lib.hid (var2 (x := c.E i) hb1 HI.out)⟩
    rw [← hW]
    rw [← hnb]
    clear hW hnb
    obtain ⟨z0, z1, z2, z3, z4, y0, y1, y2, y3, y4⟩ := cells5 HV.out.2.2.2
    have HNO := Lib.hid (leaf_no c (c.E i) W P (HB.out.below HV.out.2.1) (HNL.out) (fun h => absurd h HN9.out))
    go_wp2_with (first | (go_at_call 44; refine (HNO.out).mono ?_; rintro e w2 ⟨rfl, hb2⟩; have hbw : Below w.heap.size w w2 := below_step (Nat.le_refl _) HV.out.2.1 hb2; have x0 := cell_later hb2 z0; have x1 := cell_later hb2 z1; have x2 := cell_later hb2 z2; have x3 := cell_later hb2 z3; have x4 := cell_later hb2 z4) | (go_at_call 46; refine (both_no c (c.E i) _ _ HNB.out).mono ?_; rintro e w3 ⟨rfl, hb3⟩; have hbw3 : Below w.heap.size w w3 := below_step (Nat.le_refl _) hbw hb3; have d1 := (HB.out.below hbw3).c1; have t0 := cell_later hb3 x0; have t1 := cell_later hb3 x1; have t2 := cell_later hb3 x2; have t3 := cell_later hb3 x3; have t4 := cell_later hb3 x4) | (go_at_call 48; refine (HM.out i _ _ P hi HK.out (fun h => absurd h HN9.out) hs (HB.out.below hbw3) ((HV.out.1.below hb2).below hb3)).mono ?_; rintro e w4 ⟨v, P1, rfl, h1, h2⟩; obtain ⟨T, y, rfl⟩ := h2.form; have H1 := Lib.hid (And.intro h1 h2); clear h1 h2))
    go_ret
    exact ⟨_, _, rfl, H1.out.1.from_below hbw3, H1.out.2.from_below hbw3⟩
end Go.Proofs.Ytkpfbgeaodopoaa.fnDirect
