/-
  FnStackScope: the package's steps with a stack.
-/
import Derived.Test.YtbdadgkjiondgaaStkMeth2
import Derived.Test.YtbdadgkjiondgaaThree
import Derived.Test.YtbdadgkjiondgaaHeld
import Derived.Deep.LoopGhost
import Derived.Deep.Cut
import Derived.Deep.Light
import Derived.Deep.CutRange
import Derived.Deep.CutBlock
import Derived.Deep.DeepCutAuto
namespace Go.Proofs.Ytbdadgkjiondgaa.fnStackScope
open Go.RowKit Go.Maps Go.WideMaps
set_option linter.unusedSimpArgs false
set_option linter.unusedVariables false

/-- A step, and where its names lie. -/
structure SE where
  kind : Int
  ca : Option Addr
  cl : Nat
  cc : Nat
  S : Nat → ByteArray
  name : ByteArray
  val : Int
  trim : Bool

def SeIn (w : World) (a : Addr) (e : SE) : Prop :=
  w.cell? a = some (.int .i64 e.kind) ∧ w.cell? ⟨a.block, a.off + 1, none⟩ = some (.slice e.ca e.cl e.cc) ∧ w.cell? ⟨a.block, a.off + 2, none⟩ = some (.string e.name) ∧ w.cell? ⟨a.block, a.off + 3, none⟩ = some (.int .i64 e.val) ∧ w.cell? ⟨a.block, a.off + 4, none⟩ = some (.bool e.trim) ∧ StrsIn w e.ca e.cl e.cc e.S

def SesIn (w : World) (c : Option Addr) (len cap : Nat) (E : Nat → SE) : Prop :=
  (c = none ∧ len = 0 ∧ cap = 0) ∨ ∃ a, c = some a ∧ len ≤ cap ∧ cap ≤ maxLen ∧ ∀ i, i < len → SeIn w (a.add (i * 5)) (E i)

theorem SeIn.below {w w' : World} {a : Addr} {e : SE} (h : SeIn w a e) (hb : Below w.heap.size w w') : SeIn w' a e := by
  obtain ⟨h0, h1, h2, h3, h4, h5⟩ := h
  exact ⟨cell_later hb h0, cell_later hb h1, cell_later hb h2, cell_later hb h3, cell_later hb h4, h5.below hb⟩

theorem SesIn.below {w w' : World} {c : Option Addr} {len cap : Nat} {E : Nat → SE} (h : SesIn w c len cap E) (hb : Below w.heap.size w w') : SesIn w' c len cap E := by
  rcases h with h | ⟨a, rfl, h1, h2, h3⟩
  · exact .inl h
  · exact .inr ⟨a, rfl, h1, h2, fun i hi => (h3 i hi).below hb⟩

/-- Short enough. -/
def SeOk (e : SE) : Prop := (e.cl : Int) ≤ 2147483647 ∧ (∀ i, i < e.cl → ((e.S i).size : Int) ≤ 2147483647) ∧ (e.name.size : Int) ≤ 2147483647

def stOf (e : SE) : St := ⟨e.kind, names e.S e.cl, e.name, if e.kind = 3 then e.val else 0, e.trim⟩

theorem stack_any (n : Int) (w : World) : Calls Try.prog 12 #[.int .i64 n] w
    fun e w' => e = .returned (.agg #[.pointer none, .pointer none, .slice none 0 0, .int .i64 0, .int .i64 n]) ∧ w.alloc (.cells #[.pointer none, .pointer none, .slice none 0 0, .int .i64 0, .int .i64 n] 47) = w' := by
  go_enter Try.func12, Try.ntmps12
  go_wp2
  go_returns
  exact ⟨rfl, rfl⟩

theorem message_any (s : ByteArray) (w : World) : Calls Try.prog 13 #[.string s] w
    fun e w' => e = .returned (.agg #[.pointer none, .string s, .int .i64 0, .int .i64 0, .int .i64 0, .int .i64 0]) ∧ w.alloc (.cells #[.pointer none, .string s, .int .i64 0, .int .i64 0, .int .i64 0, .int .i64 0] 53) = w' := by
  go_enter Try.func13, Try.ntmps13
  go_wp2
  go_returns
  exact ⟨rfl, rfl⟩

/-- What the steps find. -/
noncomputable def founds (X : Nat → St) (k : Nat) : List Value := (List.range k).map fun i => .int .i64 (outs X i)

theorem founds_succ (X : Nat → St) (k : Nat) : founds X (k + 1) = founds X k ++ [.int .i64 (outs X k)] := by
  unfold founds
  rw [List.range_succ, List.map_append]
  rfl

def sepV (u v : Value) : Prop := ∀ b, u.ownBlock = some b → v.ownBlock ≠ some b

/-- What has been told, and what is there. -/
structure Told (B sb : Nat) (X : Nat → St) (k : Nat) (r2 r3 r4 : Value) (wr : World) : Prop where
  stk : ∃ l c v, StkIn wr B sb (after X k) l c v
  o2 : wr.ownsRow B 3 1 r2 k (founds X k)
  o3 : ∃ xs, wr.ownsRow B 3 1 r3 k xs
  o4 : ∃ xs, wr.ownsRow B 3 1 r4 k xs
  s23 : sepV r2 r3
  s24 : sepV r2 r4
  s32 : sepV r3 r2
  s34 : sepV r3 r4
  s42 : sepV r4 r2
  s43 : sepV r4 r3

theorem look_mem {S : List Fr} {s : ByteArray} {n : Nat} : ∀ m, look S s m = some n → ∃ f, f ∈ S ∧ f.val = n := by
  intro m
  induction m with
  | zero => intro h; simp [look] at h
  | succ m ih =>
    intro h
    rw [look] at h
    cases hf : S[m]? with
    | none => rw [hf] at h; cases h
    | some f =>
      rw [hf] at h
      simp only at h
      split at h
      · exact ⟨f, List.mem_of_getElem? hf, Option.some.inj h⟩
      · split at h
        · cases h
        · exact ih h

theorem cut_sub (S : List Fr) : ∀ m, ∀ f ∈ cut S m, f ∈ S := by
  intro m
  induction m with
  | zero => intro f hf; exact hf
  | succ m ih =>
    intro f hf
    rw [cut] at hf
    cases hg : S[m]? with
    | none => rw [hg] at hf; exact hf
    | some g =>
      rw [hg] at hf
      simp only at hf
      split at hf
      · split at hf
        · exact List.mem_of_mem_take hf
        · exact hf
      · exact ih f hf

theorem after_val (X : Nat → St) : ∀ k, ∀ f ∈ after X k, f.val < k := by
  intro k
  induction k with
  | zero => intro f hf; simp [after] at hf
  | succ k ih =>
    intro f hf
    rw [after] at hf
    unfold next at hf
    split at hf
    · rcases List.mem_append.1 hf with h | h
      · have := ih f h; omega
      · simp at h; subst h; exact Nat.lt_succ_self _
    · split at hf
      · rcases List.mem_append.1 hf with h | h
        · have := ih f h; omega
        · simp at h; subst h; exact Nat.lt_succ_self _
      · split at hf
        · split at hf
          · have := ih f (List.mem_of_mem_take hf); omega
          · have := ih f hf; omega
        · split at hf
          · have := ih f (cut_sub _ _ f hf); omega
          · have := ih f hf; omega

theorem cut_length (S : List Fr) : ∀ m, (cut S m).length ≤ S.length := by
  intro m
  induction m with
  | zero => exact Nat.le_refl _
  | succ m ih =>
    rw [cut]
    cases hg : S[m]? with
    | none => exact Nat.le_refl _
    | some g =>
      simp only
      split
      · split
        · rw [List.length_take]; omega
        · exact Nat.le_refl _
      · exact ih

theorem after_length (X : Nat → St) : ∀ k, (after X k).length ≤ k := by
  intro k
  induction k with
  | zero => simp [after]
  | succ k ih =>
    rw [after]
    unfold next
    split
    · simp; exact ih
    · split
      · simp; exact ih
      · split
        · split
          · rw [List.length_take]; omega
          · omega
        · split
          · have := cut_length (after X k) (after X k).length; omega
          · omega

theorem found_five {X : Nat → St} {k : Nat} (h : (X k).kind = 5) : outs X k = num (look (after X k) (X k).name (after X k).length) := by
  unfold outs found
  rw [if_pos h]

theorem found_none {X : Nat → St} {k : Nat} (h : (X k).kind ≠ 5) : outs X k = -1 := by
  unfold outs found
  rw [if_neg h]

theorem back_all : (List.range 256).all (fun n => floatToIntVal .f64 (floatOfInt .f64 (n : Int)) .i64 == some (n : Int)) = true := by kernel_rfl

theorem back (n : Nat) (h : n < 256) : floatToIntVal .f64 (floatOfInt .f64 (n : Int)) .i64 = some (n : Int) := by
  have := List.all_eq_true.1 back_all n (List.mem_range.2 h)
  simpa using this

@[go_sem] theorem assert_num (a : Addr) (w : World) : (Instr.typeAssert (.iface 77 (.pointer (some a))) 82 77 false).run Try.prog w = .ok (.pointer (some a)) w := by kernel_rfl

theorem lookup_none (B sb : Nat) (S : List Fr) (l c : Option Addr) (v : Value) (s : ByteArray) (w : World) (h : StkIn w B sb S l c v) (hs : (s.size : Int) ≤ 2147483647) (hS : S.length ≤ 1000000) (hl : look S s S.length = none) :
    Calls Try.prog 23 #[.pointer (some ⟨sb, 0, none⟩), .string s] w fun e w' => e = .returned (.pointer none) ∧ w = w' := by
  refine (lookup_any B sb S l c v s w h hs hS).mono ?_
  rintro e w' ⟨⟨-, rfl⟩ | ⟨k, p, h2, -⟩, rfl⟩
  · exact ⟨rfl, rfl⟩
  · rw [hl] at h2; cases h2

theorem lookup_some (B sb : Nat) (S : List Fr) (l c : Option Addr) (v : Value) (s : ByteArray) (w : World) (h : StkIn w B sb S l c v) (hs : (s.size : Int) ≤ 2147483647) (hS : S.length ≤ 1000000) (n : Nat) (hl : look S s S.length = some n) :
    Calls Try.prog 23 #[.pointer (some ⟨sb, 0, none⟩), .string s] w fun e w' => ∃ p, e = .returned (.pointer (some ⟨p, 0, none⟩)) ∧ ThunkAt w p n ∧ w = w' := by
  refine (lookup_any B sb S l c v s w h hs hS).mono ?_
  rintro e w' ⟨⟨h2, rfl⟩ | ⟨k, p, h2, rfl, h3⟩, rfl⟩
  · rw [hl] at h2; cases h2
  · rw [hl] at h2
    cases h2
    exact ⟨p, rfl, h3, rfl⟩

def badI (t : TypeId) : Bool := t == 3

def sl3 (i : Nat) : Nat := [66, 67, 72, 73, 77, 78].getD i 0

theorem sl3_ne : ∀ i j, i < 6 → j < 6 → i ≠ j → sl3 i ≠ sl3 j := by
  have h : ∀ i, i < 6 → ∀ j, j < 6 → i ≠ j → sl3 i ≠ sl3 j := by decide
  exact fun i j hi hj => h i hi j hj

def lst3 (x y z : Nat) : Array Bool := #[true, true, decide (1 ≤ x), decide (2 ≤ x), true, true, true, true, decide (1 ≤ y), decide (2 ≤ y), true, true, true, decide (1 ≤ z), decide (2 ≤ z), false, false, false]

theorem build_run (n : Int) (w : World) : (Instr.buildSlice 28 1 #[(0, .int .i64 n)]).run Try.prog w = .ok (.slice (some ⟨w.heap.size, 0, none⟩) 1 1) (w.alloc (.cells #[.int .i64 n] 3)) := by kernel_rfl

theorem infoInt : (Try.prog.info? 3).map (fun i => (i.zero, i.size, i.bytes)) = some (some (.int .i64 0), 1, 8) := by kernel_rfl

set_option maxRecDepth 100000 in
set_option maxHeartbeats 1600000 in
theorem part_any (c : Option Addr) (len cap : Nat) (E : Nat → SE) (w : World) (h : SesIn w c len cap E) (hlen : len ≤ 200) (hok : ∀ i, i < len → SeOk (E i)) (hk : ∀ i, i < len → 1 ≤ (E i).kind ∧ (E i).kind ≤ 5)
    (hv : ∀ i, i < len → if (E i).kind = 3 then 1 ≤ (E i).val else (E i).val = (i : Int)) :
    Calls Try.prog 11 #[.slice c len cap] w
    fun e w' => ∃ v1 v2 v3, e = .returned (.tuple #[v1, v2, v3]) ∧ w'.ownsRow w.heap.size 3 1 v1 len (founds (fun i => stOf (E i)) len) ∧ Below w.heap.size w w' := by
  have HS := Lib.hid h
  have HO := Lib.hid hok
  have HK := Lib.hid hk
  have HV := Lib.hid hv
  clear h hok hk hv
  obtain ⟨X, hX⟩ : ∃ X, X = fun i => stOf (E i) := ⟨_, rfl⟩
  rw [← hX]
  go_enter Try.func11, Try.ntmps11
  go_wp2_with (first | (go_at_call 12; refine (stack_any _ _).mono ?_; rintro e w' ⟨rfl, rfl⟩) | (go_at_call 13; refine (message_any _ _).mono ?_; rintro e w' ⟨rfl, rfl⟩))
  go_loopw [2, 3, 4, 17] (fun r2 r3 r4 i wr => ∃ k : Nat, k ≤ len ∧ i = .int .i64 k ∧ Told w.heap.size (w.heap.size + 1) X k r2 r3 r4 wr ∧ w.heap.size + 1 < wr.heap.size ∧ Below w.heap.size w wr) (fun _ _ _ i _ => len - (intOf i).toNat)
  case atStart =>
    refine ⟨0, Nat.zero_le _, rfl, ⟨⟨none, none, .slice none 0 0, 0, len, [], ?_, by omega, World.ownsRow_nil _ _ _ _, rfl, fun i p f hp => by simp at hp⟩, World.ownsRow_nil _ _ _ _, ⟨[], World.ownsRow_nil _ _ _ _⟩, ⟨[], World.ownsRow_nil _ _ _ _⟩, ?_, ?_, ?_, ?_, ?_, ?_⟩, by simp, by go_grown⟩
    · exact block_alloc (block_alloc (block_new' (by simp) _) _) _
    all_goals exact fun b hb => by simp [Value.ownBlock] at hb
  case round =>
    obtain ⟨k, hk, rfl, hT, hsz, hbel⟩ := hrel
    have HT := Lib.hid hT
    clear hT
    by_cases hlt : k < len
    · obtain ⟨a, rfl, hc⟩ : ∃ a, c = some a ∧ SeIn w (a.add (k * 5)) (E k) := by
        rcases HS.out with ⟨-, h0, -⟩ | ⟨a, rfl, h1, h2, h3⟩
        · omega
        · exact ⟨a, rfl, h3 k hlt⟩
      obtain ⟨q0, q1, q2, q3, q4, q5⟩ := hc.below hbel
      have HQ := Lib.hid q5
      have HQ0 := Lib.hid hc.2.2.2.2.2
      have HQ3 := Lib.hid hc.2.2.2.2.2
      clear q5 hc
      obtain ⟨l, cc, v, hstk⟩ := HT.out.stk
      obtain ⟨calls, lim, ps, hP⟩ := hstk.part
      have HP0 := Lib.hid hP
      clear hstk hP
      have d0 := HP0.out.cell (i := 0) rfl
      have d1 := HP0.out.cell (i := 1) rfl
      have e0 := HP0.out.free 0
      have e1 := HP0.out.free 1
      have lt0 := lt_of_block HP0.out.blk
      have D0 := fun o => cell_past o d0
      have D1 := fun o => cell_past o d1
      have E0 := fun o => free_past o e0 lt0
      have E1 := fun o => free_past o e1 lt0
      go_upto_block 2 with (go_at_call 14; refine (clear_any (w.heap.size + 1) l cc _ (by first | exact D0 _ | exact d0) (by first | exact D1 _ | exact d1) (by first | exact E0 _ | exact e0) (by first | exact E1 _ | exact e1)).mono ?_; rintro e w4 ⟨rfl, rfl⟩)
      have HP := Lib.hid ((((HP0.out.set 0 (.pointer none)).set 1 (.pointer none)).below (Below.alloc (Below.refl _ _) (Nat.le_refl _) (.cells #[.int .i64 (E k).kind, .slice (E k).ca (E k).cl (E k).cc, .string (E k).name, .int .i64 (E k).val, .bool (E k).trim] 36))))
      have hx : (((wr.setCell ⟨w.heap.size + 1, 0, none⟩ (.pointer none)).setCell ⟨w.heap.size + 1, 1, none⟩ (.pointer none)).alloc (.cells #[.int .i64 (E k).kind, .slice (E k).ca (E k).cl (E k).cc, .string (E k).name, .int .i64 (E k).val, .bool (E k).trim] 36)).heap[wr.heap.size]? = some (.cells #[.int .i64 (E k).kind, .slice (E k).ca (E k).cl (E k).cc, .string (E k).name, .int .i64 (E k).val, .bool (E k).trim] 36 (0, 0)) := block_new' (by simp) _
      have hzw : wr.heap.size < (((wr.setCell ⟨w.heap.size + 1, 0, none⟩ (.pointer none)).setCell ⟨w.heap.size + 1, 1, none⟩ (.pointer none)).alloc (.cells #[.int .i64 (E k).kind, .slice (E k).ca (E k).cl (E k).cc, .string (E k).name, .int .i64 (E k).val, .bool (E k).trim] 36)).heap.size := lt_of_block hx
      obtain ⟨W1, hW1⟩ : ∃ W1, ((wr.setCell ⟨w.heap.size + 1, 0, none⟩ (.pointer none)).setCell ⟨w.heap.size + 1, 1, none⟩ (.pointer none)).alloc (.cells #[.int .i64 (E k).kind, .slice (E k).ca (E k).cl (E k).cc, .string (E k).name, .int .i64 (E k).val, .bool (E k).trim] 36) = W1 := ⟨_, rfl⟩
      rw [hW1] at HP hx hzw ⊢
      clear hW1 q0 q1 q2 q3 q4 d0 d1 e0 e1 D0 D1 E0 E1 HP0 lt0
      have HT1 := Lib.hid HP.out.turned
      have HPW : Hid (Part w.heap.size (w.heap.size + 1) W1 W1 #[.pointer none, .pointer none, v, .int .i64 calls, .int .i64 lim] v ps (after X k)) := Lib.hid (by
        have := HP.out
        simp at this
        exact ⟨this.blk, Turned.refl _ _ _, this.row, this.frames, this.le⟩)
      clear HP
      have hxk := congrFun hX k
      have hk5 := HK.out k hlt
      have hvk := HV.out k hlt
      have hok := HO.out k hlt
      have hbw : w.heap.size ≤ W1.heap.size := by omega
      have hal := after_length X k
      go_cut [9, 10, 17] from 17 to 79 (fun s9 s10 s17 wx => s9 = .int .i64 (outs X k) ∧ s17 = .int .i64 k ∧ (∃ l c v, StkIn wx w.heap.size (w.heap.size + 1) (after X (k + 1)) l c v) ∧ Turned badS w.heap.size W1 wx)
      case first =>
        have HQ1 : Hid (StrsIn W1 (E k).ca (E k).cl (E k).cc (E k).S) := Lib.hid (HQ0.out.below (hbel.trans (HT1.out.below hbel.size)))
        have hnm : (X k).names = names (E k).S (E k).cl := by rw [hxk]; rfl
        have htm : (X k).trim = (E k).trim := by rw [hxk]; rfl
        have hkd : (X k).kind = (E k).kind := by rw [hxk]; rfl
        have hnn : (X k).name = (E k).name := by rw [hxk]; rfl
        have hvl : (E k).kind = 3 → (X k).num = (E k).val := fun h => by rw [hxk]; exact if_pos h
        clear HQ HT HS HO HK HV HQ0
        rcases (show (E k).kind = 1 ∨ (E k).kind = 2 ∨ (E k).kind = 3 ∨ (E k).kind = 4 ∨ (E k).kind = 5 by omega) with h | h | h | h | h
        · rw [if_neg (by rw [h]; decide)] at hvk
          have ha : Hid (after X (k + 1) = after X k ++ [⟨names (E k).S (E k).cl, true, (E k).trim, k⟩]) := Lib.hid (by show next _ _ _ = _; unfold next; rw [hkd, h, hnm, htm]; rfl)
          have ho : Hid (outs X k = -1) := Lib.hid (found_none (by rw [hkd, h]; decide))
          rw [h, hvk] at hx ⊢
          obtain ⟨g1, g2, g3⟩ := hok
          have HG := Lib.hid g2
          have t0 := HPW.out.cell (i := 0) rfl
          have t1 := HPW.out.cell (i := 1) rfl
          have s0 := HPW.out.free 0
          have s1 := HPW.out.free 1
          clear g2 hxk hnm hkd hnn hvl htm
          go_upto_region 11 with (go_at_call 15; refine (setTrace_any (w.heap.size + 1) (some ⟨w.heap.size + 1 + 1 + 1, 0, none⟩) none _ t0 t1 s0 s1).mono ?_; rintro e w4 ⟨rfl, rfl⟩)
          have HP2 := Lib.hid (((HPW.out.set 0 (.pointer (some ⟨w.heap.size + 1 + 1 + 1, 0, none⟩))).set 1 (.pointer none)).below (Below.alloc (Below.refl _ _) (Nat.le_refl _) (.cells #[.pointer (some ⟨w.heap.size + 1 + 1 + 1, 0, none⟩), .pointer none] 44)))
          obtain ⟨W2, hW2⟩ : ∃ W2, ((W1.setCell ⟨w.heap.size + 1, 0, none⟩ (.pointer (some ⟨w.heap.size + 1 + 1 + 1, 0, none⟩))).setCell ⟨w.heap.size + 1, 1, none⟩ (.pointer none)).alloc (.cells #[.pointer (some ⟨w.heap.size + 1 + 1 + 1, 0, none⟩), .pointer none] 44) = W2 := ⟨_, rfl⟩
          rw [hW2] at HP2 ⊢
          clear hW2 t0 t1 s0 s1
          have HT2 := Lib.hid HP2.out.turned
          have hx2 := HT2.out.still _ _ hx rfl
          have x0 := cell_of_block (i := 0) hx2 rfl
          have x1 := cell_of_block (i := 1) hx2 rfl
          have x2 := cell_of_block (i := 2) hx2 rfl
          have x3 := cell_of_block (i := 3) hx2 rfl
          have x4 := cell_of_block (i := 4) hx2 rfl
          have hw12 := HT2.out.size
          have HQ2 : Hid (StrsIn W2.drew (E k).ca (E k).cl (E k).cc (E k).S) := Lib.hid (show StrsIn W2 _ _ _ _ from HQ3.out.below ((hbel.trans (HT1.out.below hbel.size)).trans (HT2.out.below hbw)))
          clear HPW hx hx2 HQ1
          go_region_law (first | (go_simp; go_at_call 18; refine (bound_any 1 _ _ _ _ _ k _ _ HQ2.out g1 HG.out).mono ?_; rintro e w3 ⟨b, rfl, hmap, hb3⟩; have HMp := Lib.hid hmap; have hb3' := (Below.refl W2.heap.size W2).drew.trans hb3; have HP3 := Lib.hid (HP2.out.below hb3'); have y4 := cell_later hb3 (show W2.drew.cell? _ = _ from x4); have y4' := fun o => cell_past o y4; have y4'' := fun o o' => cell_past o' (cell_past o y4); have y43 := fun o o' o'' => cell_past o'' (cell_past o' (cell_past o y4)); clear hmap) | (go_simp; go_at_call 19; refine (unbound_any _).mono ?_; rintro e w' ⟨rfl, rfl⟩) | (go_simp; go_at_call 17; refine (env_any b none 123456789 _).mono ?_; rintro e w' ⟨rfl, rfl⟩) | (go_simp; go_at_call 16; refine (newCall_any w.heap.size (w.heap.size + 1) (after X k) ⟨w.heap.size + 1 + 1 + 1, 0, none⟩ none _ b _ (names (E k).S (E k).cl) k (E k).trim _ (by have hp := (HP3.out.below (W' := ((w3.alloc (.cells #[.pointer none, .int .i64 123456789] 61)).alloc (.cells #[.pointer none, .int .i64 123456789] 61)).alloc (.cells #[.map (some b), .pointer none, .int .i64 123456789] 63)) (by go_grown)); simp at hp; exact hp.stk) (HMp.out.below (by go_grown)) (by have := hb3.size; simp at this ⊢; omega) (by omega)).mono ?_; rintro e w4 ⟨rfl, hstk, htr⟩; have HSk := Lib.hid hstk; clear hstk))
          all_goals
            go_wp2_with fail
            go_meet
            refine ⟨by rw [ho.out], rfl, ?_, (HT2.out.trans ((Turned.of_below hb3').trans ((Turned.of_below (show Below w3.heap.size w3 (((w3.alloc (.cells #[.pointer none, .int .i64 123456789] 61)).alloc (.cells #[.pointer none, .int .i64 123456789] 61)).alloc (.cells #[.map (some b), .pointer none, .int .i64 123456789] 63)) by go_grown)).trans htr)))⟩
            rw [ha.out]
            obtain ⟨v', hv'⟩ := HSk.out
            exact ⟨_, _, v', hv'⟩
        · rw [if_neg (by rw [h]; decide)] at hvk
          have ha : Hid (after X (k + 1) = after X k ++ [⟨names (E k).S (E k).cl, false, false, k⟩]) := Lib.hid (by show next _ _ _ = _; unfold next; rw [hkd, h, hnm]; rfl)
          have ho : Hid (outs X k = -1) := Lib.hid (found_none (by rw [hkd, h]; decide))
          rw [h, hvk] at hx ⊢
          have x0 := cell_of_block (i := 0) hx rfl
          have x1 := cell_of_block (i := 1) hx rfl
          have x2 := cell_of_block (i := 2) hx rfl
          have x3 := cell_of_block (i := 3) hx rfl
          have x4 := cell_of_block (i := 4) hx rfl
          obtain ⟨g1, g2, g3⟩ := hok
          have HG := Lib.hid g2
          clear g2 hx hxk hnm hkd hnn hvl htm HQ3
          go_wp2_with (first | (go_at_call 18; refine (bound_any 2 _ _ _ _ _ k _ _ HQ1.out g1 HG.out).mono ?_; rintro e w3 ⟨b, rfl, hmap, hb3⟩; have HMp := Lib.hid hmap; clear hmap) | (go_at_call 20; refine (newLocal_any w.heap.size (w.heap.size + 1) (after X k) _ _ _ b _ _ k _ (HPW.out.below hb3).stk HMp.out (by have := hb3.size; omega) (by omega)).mono ?_; rintro e w4 ⟨rfl, hstk, htr⟩; have HSk := Lib.hid hstk; clear hstk))
          go_meet
          refine ⟨by rw [ho.out], rfl, ?_, (Turned.of_below hb3).trans htr⟩
          rw [ha.out]
          obtain ⟨v', hv'⟩ := HSk.out
          exact ⟨_, _, v', hv'⟩
        · rw [if_pos h] at hvk
          have ha : Hid (after X (k + 1) = if ((after X k).length : Int) = (E k).val then (after X k).take ((after X k).length - 1) else after X k) := Lib.hid (by show next _ _ _ = _; unfold next; rw [hkd, h, hvl h]; rfl)
          have ho : Hid (outs X k = -1) := Lib.hid (found_none (by rw [hkd, h]; decide))
          rw [h] at hx ⊢
          have x0 := cell_of_block (i := 0) hx rfl
          have x1 := cell_of_block (i := 1) hx rfl
          have x2 := cell_of_block (i := 2) hx rfl
          have x3 := cell_of_block (i := 3) hx rfl
          have x4 := cell_of_block (i := 4) hx rfl
          obtain ⟨g1, g2, g3⟩ := hok
          have HG := Lib.hid g2
          clear g2 hx hxk hnm hkd hnn hvl htm HQ3
          go_wp2_with (first | (go_at_call 21; refine (pop_any w.heap.size (w.heap.size + 1) (after X k) _ _ _ HPW.out.stk hbw (by omega) hvk).mono ?_; rintro e w4 ⟨rfl, hstk, htr⟩; have HSk := Lib.hid hstk; clear hstk))
          go_meet
          refine ⟨by rw [ho.out], rfl, ?_, htr⟩
          rw [ha.out]
          obtain ⟨v', l', c', hv'⟩ := HSk.out
          exact ⟨_, _, v', hv'⟩
        · have ha : Hid (after X (k + 1) = cut (after X k) (after X k).length) := Lib.hid (by show next _ _ _ = _; unfold next; rw [hkd, h]; rfl)
          have ho : Hid (outs X k = -1) := Lib.hid (found_none (by rw [hkd, h]; decide))
          rw [h] at hx ⊢
          have x0 := cell_of_block (i := 0) hx rfl
          have x1 := cell_of_block (i := 1) hx rfl
          have x2 := cell_of_block (i := 2) hx rfl
          have x3 := cell_of_block (i := 3) hx rfl
          have x4 := cell_of_block (i := 4) hx rfl
          obtain ⟨g1, g2, g3⟩ := hok
          have HG := Lib.hid g2
          clear g2 hx hxk hnm hkd hnn hvl htm HQ3
          go_wp2_with (first | (go_at_call 22; refine (trim_any w.heap.size (w.heap.size + 1) (after X k) _ _ _ _ HPW.out.stk (by omega)).mono ?_; rintro e w4 ⟨rfl, hstk, htr⟩; have HSk := Lib.hid hstk; clear hstk))
          go_meet
          refine ⟨by rw [ho.out], rfl, ?_, htr⟩
          rw [ha.out]
          obtain ⟨v', hv'⟩ := HSk.out
          exact ⟨_, _, v', hv'⟩
        · have ha : Hid (after X (k + 1) = after X k) := Lib.hid (by show next _ _ _ = _; unfold next; rw [hkd, h]; rfl)
          have ho : Hid (outs X k = num (look (after X k) (E k).name (after X k).length)) := Lib.hid (by rw [← hnn]; exact found_five (by rw [hkd, h]))
          have hlt2 : ∀ n, look (after X k) (E k).name (after X k).length = some n → n < k := fun n hn => by
            obtain ⟨f, hf, rfl⟩ := look_mem _ hn
            exact after_val X k f hf
          have HL2 := Lib.hid hlt2
          rw [h] at hx ⊢
          have x0 := cell_of_block (i := 0) hx rfl
          have x1 := cell_of_block (i := 1) hx rfl
          have x2 := cell_of_block (i := 2) hx rfl
          have x3 := cell_of_block (i := 3) hx rfl
          have x4 := cell_of_block (i := 4) hx rfl
          obtain ⟨g1, g2, g3⟩ := hok
          have HG := Lib.hid g2
          clear g2 hx hxk hnm hkd hnn hvl htm HQ3 hlt2
          cases hl : look (after X k) (E k).name (after X k).length with
          | none =>
            rw [hl] at ho
            go_wp2_with (first | (go_at_call 23; refine (lookup_none w.heap.size (w.heap.size + 1) (after X k) _ _ _ _ _ HPW.out.stk g3 (by omega) hl).mono ?_; rintro e w4 ⟨rfl, rfl⟩))
            go_meet
            refine ⟨by rw [ho.out]; rfl, rfl, ?_, Turned.refl _ _ _⟩
            rw [ha.out]
            exact ⟨_, _, _, HPW.out.stk⟩
          | some n =>
            have hnk := HL2.out n hl
            have hcv := fun w => run_convert_float_int (P := Try.prog) w 74 3 .f64 .i64 _ (n : Int) (by rw [Try.underlying74]; rfl) Try.underlying3 (back n (by omega))
            rw [hl] at ho
            go_wp2_with (first | (go_at_call 23; refine (lookup_some w.heap.size (w.heap.size + 1) (after X k) _ _ _ _ _ HPW.out.stk g3 (by omega) n hl).mono ?_; rintro e w4 ⟨p, rfl, ⟨q, C, C', z1, z2, z3, z4⟩, rfl⟩; have z5 := cell_of_block z1 z2; have z6 := cell_of_block z3 z4))
            go_meet
            refine ⟨by rw [ho.out]; rfl, rfl, ?_, Turned.refl _ _ _⟩
            rw [ha.out]
            exact ⟨_, _, _, HPW.out.stk⟩
      case rest =>
        obtain ⟨rfl, rfl, hstk, htr⟩ := hcut
        have HSk := Lib.hid hstk
        have HTr := Lib.hid (HT1.out.trans htr)
        clear hstk htr HPW hx HT1 HQ hok hvk hxk
        have hsz2 := HTr.out.size
        have hbw2 := hbel.size
        have o2 : wc.ownsRow w.heap.size 3 1 u2 k (founds X k) := HTr.out.row HT.out.o2 rfl
        obtain ⟨xs3, hxs3⟩ := HT.out.o3
        have o3 : wc.ownsRow w.heap.size 3 1 u3 k xs3 := HTr.out.row hxs3 rfl
        obtain ⟨xs4, hxs4⟩ := HT.out.o4
        have o4 : wc.ownsRow w.heap.size 3 1 u4 k xs4 := HTr.out.row hxs4 rfl
        obtain ⟨lx, cx, vx, hstk⟩ := HSk.out
        obtain ⟨callsx, limx, psx, hPx⟩ := hstk.part
        obtain ⟨aox, cpx, rfl⟩ := owns_slice hPx.row
        have HPx := Lib.hid hPx
        clear hPx hstk hxs3 hxs4
        have O2 := Lib.hid o2
        have O3 := Lib.hid o3
        have O4 := Lib.hid o4
        clear o2 o3 o4
        clear hX
        go_upto_region 22 with fail
        refine held_begin (S := fun w' => Turned badI w.heap.size wc.drew w') 18 (by rfl) (by kernel_rfl) (Turned.refl _ _ _) (fun hHeld => ?_)
        refine held_take 0 (some 64) (v := ?_) rfl rfl (by kernel_rfl) (by kernel_rfl) (by kernel_rfl) (fun _ _ _ _ h => h) (by kernel_rfl) ?_ hHeld ?_
        rotate_left 1
        · intro w' hSw; go_simp; (try with_reducible rfl)
        try simp only [List.foldl_cons, List.foldl_nil, List.length_cons, List.length_nil, Act.put, List.setIfInBounds_toArray, List.set_cons_zero, List.set_cons_succ]
        refine held_take 1 (some 65) (v := ?_) rfl rfl (by kernel_rfl) (by kernel_rfl) (by kernel_rfl) (fun _ _ _ _ h => h) (by kernel_rfl) ?_ hHeld ?_
        rotate_left 1
        · intro w' hSw; go_simp; (try with_reducible rfl)
        try simp only [List.foldl_cons, List.foldl_nil, List.length_cons, List.length_nil, Act.put, List.setIfInBounds_toArray, List.set_cons_zero, List.set_cons_succ]
        refine held_take 4 (some 68) (v := ?_) rfl rfl (by kernel_rfl) (by kernel_rfl) (by kernel_rfl) (fun _ _ _ _ h => h) (by kernel_rfl) ?_ hHeld ?_
        rotate_left 1
        · intro w' hSw; go_simp; (try with_reducible rfl)
        try simp only [List.foldl_cons, List.foldl_nil, List.length_cons, List.length_nil, Act.put, List.setIfInBounds_toArray, List.set_cons_zero, List.set_cons_succ]
        refine held_take 5 (some 69) (v := ?_) rfl rfl (by kernel_rfl) (by kernel_rfl) (by kernel_rfl) (fun _ _ _ _ h => h) (by kernel_rfl) ?_ hHeld ?_
        rotate_left 1
        · intro w' hSw; go_simp; (try with_reducible rfl)
        try simp only [List.foldl_cons, List.foldl_nil, List.length_cons, List.length_nil, Act.put, List.setIfInBounds_toArray, List.set_cons_zero, List.set_cons_succ]
        refine held_take 6 (some 70) (v := ?_) rfl rfl (by kernel_rfl) (by kernel_rfl) (by kernel_rfl) (fun _ _ _ _ h => h) (by kernel_rfl) ?_ hHeld ?_
        rotate_left 1
        · intro w' hSw; have hcl := cell_of_block (i := 2) (hSw.still _ _ HPx.out.blk rfl) rfl; go_simp; (try with_reducible rfl)
        try simp only [List.foldl_cons, List.foldl_nil, List.length_cons, List.length_nil, Act.put, List.setIfInBounds_toArray, List.set_cons_zero, List.set_cons_succ]
        refine held_take 7 (some 71) (v := ?_) rfl rfl (by kernel_rfl) (by kernel_rfl) (by kernel_rfl) (fun _ _ _ _ h => h) (by kernel_rfl) ?_ hHeld ?_
        rotate_left 1
        · intro w' hSw; go_simp; (try with_reducible rfl)
        try simp only [List.foldl_cons, List.foldl_nil, List.length_cons, List.length_nil, Act.put, List.setIfInBounds_toArray, List.set_cons_zero, List.set_cons_succ]
        refine held_take 10 (some 74) (v := ?_) rfl rfl (by kernel_rfl) (by kernel_rfl) (by kernel_rfl) (fun _ _ _ _ h => h) (by kernel_rfl) ?_ hHeld ?_
        rotate_left 1
        · intro w' hSw; go_simp; (try with_reducible rfl)
        try simp only [List.foldl_cons, List.foldl_nil, List.length_cons, List.length_nil, Act.put, List.setIfInBounds_toArray, List.set_cons_zero, List.set_cons_succ]
        refine held_take 11 (some 75) (v := ?_) rfl rfl (by kernel_rfl) (by kernel_rfl) (by kernel_rfl) (fun _ _ _ _ h => h) (by kernel_rfl) ?_ hHeld ?_
        rotate_left 1
        · intro w' hSw; go_simp; (try with_reducible rfl)
        try simp only [List.foldl_cons, List.foldl_nil, List.length_cons, List.length_nil, Act.put, List.setIfInBounds_toArray, List.set_cons_zero, List.set_cons_succ]
        refine held_take 12 (some 76) (v := ?_) rfl rfl (by kernel_rfl) (by kernel_rfl) (by kernel_rfl) (fun _ _ _ _ h => h) (by kernel_rfl) ?_ hHeld ?_
        rotate_left 1
        · intro w' hSw; have hcl := cell_of_block (i := 3) (hSw.still _ _ HPx.out.blk rfl) rfl; go_simp; (try with_reducible rfl)
        try simp only [List.foldl_cons, List.foldl_nil, List.length_cons, List.length_nil, Act.put, List.setIfInBounds_toArray, List.set_cons_zero, List.set_cons_succ]
        refine three_rows (P := Try.prog) (bad := badI) (B := w.heap.size) (B0 := w.heap.size) (w0 := wc.drew) (e := 3) (t := 28) (z := .int .i64 0) (bytes := 8) Try.underlying28 infoInt rfl (by decide) rfl (Nat.le_refl _) lst3 (fun c => [2, 8, 13].getD c 0) (fun c => [3, 9, 14].getD c 0) (by kernel_rfl) (by kernel_rfl) _ sl3 sl3_ne (fun c => [.int .i64 (outs X k), .int .i64 ((after X (k + 1)).length : Int), .int .i64 callsx].getD c (.int .i64 0)) (fun c => [(⟨u2, k, founds X k⟩ : Rec), ⟨u3, k, xs3⟩, ⟨u4, k, xs4⟩].getD c ⟨u2, k, founds X k⟩) ?hx ?hn ?hb ?hp 3 9 rfl _ (by kernel_rfl) ?hB ?hown ?hsep ?hK
        case hx =>
          intro c
          rcases c with _ | _ | _ | c <;> rfl
        case hn =>
          intro c hc
          rcases (show c = 0 ∨ c = 1 ∨ c = 2 by omega) with rfl | rfl | rfl <;> (show k + 1 ≤ _; omega)
        case hb =>
          intro c hc
          rcases (show c = 0 ∨ c = 1 ∨ c = 2 by omega) with rfl | rfl | rfl
          all_goals
            refine ⟨_, rfl, rfl, rfl, fun V w' => ?_⟩
            have hbr := build_run
            simp [execOp, sixSet, Act.eval, sl3, hbr]
        case hp =>
          intro c hc
          rcases (show c = 0 ∨ c = 1 ∨ c = 2 by omega) with rfl | rfl | rfl
          · refine ⟨_, rfl, rfl, rfl, 28, fun V w' v' w'' hr => ?_⟩
            change (Builtin.append_ #[_, _] _ #[u2, V 0]).run _ _ = _ at hr
            simp [execOp, sixSet, Act.eval, sl3, resolve, invoke, builtin, hr, Result.andThen]
          · refine ⟨_, rfl, rfl, rfl, 28, fun V w' v' w'' hr => ?_⟩
            change (Builtin.append_ #[_, _] _ #[u3, V 2]).run _ _ = _ at hr
            simp [execOp, sixSet, Act.eval, sl3, resolve, invoke, builtin, hr, Result.andThen]
          · refine ⟨_, rfl, rfl, rfl, 28, fun V w' v' w'' hr => ?_⟩
            change (Builtin.append_ #[_, _] _ #[u4, V 4]).run _ _ = _ at hr
            simp [execOp, sixSet, Act.eval, sl3, resolve, invoke, builtin, hr, Result.andThen]
        case hB => exact Nat.le_trans hbw2 hsz2
        case hown =>
          intro c hc
          rcases (show c = 0 ∨ c = 1 ∨ c = 2 by omega) with rfl | rfl | rfl
          · exact O2.out
          · exact O3.out
          · exact O4.out
        case hsep =>
          intro c d hc hd hcd
          rcases (show c = 0 ∨ c = 1 ∨ c = 2 by omega) with rfl | rfl | rfl <;> rcases (show d = 0 ∨ d = 1 ∨ d = 2 by omega) with rfl | rfl | rfl
          · exact absurd rfl hcd
          · exact HT.out.s23
          · exact HT.out.s24
          · exact HT.out.s32
          · exact absurd rfl hcd
          · exact HT.out.s34
          · exact HT.out.s42
          · exact HT.out.s43
          · exact absurd rfl hcd
        case hK =>
          intro V w3 hHeld hrows hseps
          have hT4 : Turned badI w.heap.size wc w3 := (Turned.refl _ _ _).drew.trans hHeld
          have hB3 : Below w.heap.size w w3 := (hbel.trans (HTr.out.below hbel.size)).trans (hT4.below (Nat.le_trans hbw2 hsz2))
          have HN : Hid (Told w.heap.size (w.heap.size + 1) X (k + 1) (V 1) (V 3) (V 5) w3) := Lib.hid (by
            refine ⟨⟨_, _, _, callsx, limx, psx, hT4.still _ _ HPx.out.blk rfl, HPx.out.le, hT4.row HPx.out.row rfl, HPx.out.frames.turned (Keep.of_turned hT4 rfl rfl rfl) hT4⟩, ?_, ⟨_, hrows 1 (by omega)⟩, ⟨_, hrows 2 (by omega)⟩, hseps 0 1 (by omega) (by omega) (by omega), hseps 0 2 (by omega) (by omega) (by omega), hseps 1 0 (by omega) (by omega) (by omega), hseps 1 2 (by omega) (by omega) (by omega), hseps 2 0 (by omega) (by omega) (by omega), hseps 2 1 (by omega) (by omega) (by omega)⟩
            rw [founds_succ]
            exact hrows 0 (by omega))
          have hsz3 : w.heap.size + 1 < w3.heap.size := by have := hT4.size; omega
          clear hrows hseps HT O2 O3 O4 HSk HTr hT4
          have e0 : sl3 0 = 66 := rfl
          have e1 : sl3 1 = 67 := rfl
          have e2 : sl3 2 = 72 := rfl
          have e3 : sl3 3 = 73 := rfl
          have e4 : sl3 4 = 77 := rfl
          have e5 : sl3 5 = 78 := rfl
          have el : lst3 2 2 2 = #[true, true, true, true, true, true, true, true, true, true, true, true, true, true, true, false, false, false] := rfl
          simp only [sixSet, e0, e1, e2, e3, e4, e5, List.setIfInBounds_toArray, List.set_cons_zero, List.set_cons_succ]
          rw [el]
          clear e0 e1 e2 e3 e4 e5 el
          refine held_take 15 (some 2) (v := ?_) rfl rfl (by kernel_rfl) (by kernel_rfl) (by kernel_rfl) (fun _ _ _ _ h => h) (by kernel_rfl) ?_ hHeld ?_
          rotate_left 1
          · intro w' hSw; go_simp; (try with_reducible rfl)
          try simp only [List.foldl_cons, List.foldl_nil, List.length_cons, List.length_nil, Act.put, List.setIfInBounds_toArray, List.set_cons_zero, List.set_cons_succ]
          refine held_take 16 (some 3) (v := ?_) rfl rfl (by kernel_rfl) (by kernel_rfl) (by kernel_rfl) (fun _ _ _ _ h => h) (by kernel_rfl) ?_ hHeld ?_
          rotate_left 1
          · intro w' hSw; go_simp; (try with_reducible rfl)
          try simp only [List.foldl_cons, List.foldl_nil, List.length_cons, List.length_nil, Act.put, List.setIfInBounds_toArray, List.set_cons_zero, List.set_cons_succ]
          refine held_take 17 (some 4) (v := ?_) rfl rfl (by kernel_rfl) (by kernel_rfl) (by kernel_rfl) (fun _ _ _ _ h => h) (by kernel_rfl) ?_ hHeld ?_
          rotate_left 1
          · intro w' hSw; go_simp; (try with_reducible rfl)
          try simp only [List.foldl_cons, List.foldl_nil, List.length_cons, List.length_nil, Act.put, List.setIfInBounds_toArray, List.set_cons_zero, List.set_cons_succ]
          refine wpAnyH_done (by kernel_rfl) ?_ _
          clear hHeld
          go_wp2
          go_roundw
          case rel => exact ⟨k + 1, by omega, by go_num, HN.out, hsz3, hB3⟩
          case measure => first | (simp [intOf]; done) | (simp [intOf]; omega)
    · obtain rfl : k = len := by omega
      go_wp2
      go_returns
      exact ⟨_, _, _, rfl, HT.out.o2, hbel⟩
end Go.Proofs.Ytbdadgkjiondgaa.fnStackScope
