/-
  FnDirect: the builder's members.
-/
import Derived.Test.YtkpfbgeaodopoaaDirFieldA
import Derived.Test.YtkpfbgeaodopoaaDirFieldB
import Derived.Test.YtkpfbgeaodopoaaDirFieldC
import Derived.Test.YtkpfbgeaodopoaaDirFieldD
import Derived.Test.YtkpfbgeaodopoaaDirFieldE
import Derived.Test.YtkpfbgeaodopoaaDirFieldF
namespace Go.Proofs.Ytkpfbgeaodopoaa.fnDirect
open Go.RowKit
set_option linter.unusedSimpArgs false
set_option linter.unusedVariables false

theorem Row.pars {E : Nat → Nd} {n i : Nat} {l : List Nat} {lo hi : Nat} (hS : ∀ i, i < n → Shape E (E i) (kids E i)) (h : Row E 33 l) (hK : Kin (sz E) lo hi l) (hhi : hi ≤ n) : ∃ l' k, l = l' ++ [k] ∧ (∀ j ∈ l', Par E j) ∧ ex (E k) := by
  obtain ⟨l', k, rfl, h1, h2⟩ := h
  refine ⟨l', k, rfl, fun j hj => ?_, h2⟩
  have := hK.mem (List.mem_append_left _ hj)
  exact (hS j (by omega)).par (h1 j hj)

theorem Shape.bound {c : Ctx} {N i : Nat} (hS : ∀ i, i < c.n → Shape c.E (c.E i) (kids c.E i)) (hf : Fit c.E c.n) (hi : i < c.n) (hk : (c.E i).kind = 32) (hs : sz c.E i ≤ N + 1) : Bound c N i := by
  have hfi := hf.2.2 i hi
  refine ⟨hk, hs, ?_⟩
  cases hS i hi with
  | bind1 a _ h1 h2 h3 => exact .inl ⟨h1, a, h2, h3⟩
  | bind2 _ h1 h2 =>
    obtain ⟨l', k, h3, h4, h5⟩ := h2.pars (i := i) hS hfi.kin hfi.2.1
    exact .inr ⟨h1, l', k, h3, h4, h5⟩
  | _ => simp_all

theorem field_any (c : Ctx) (N i : Nat) (ih : NodeTo c N) (hf : Fit c.E c.n) (hS : ∀ i, i < c.n → Shape c.E (c.E i) (kids c.E i)) (hn : c.n ≤ 400) (lv : Value) (w : World) (P : Nat → Value) (hi : i < c.n) (hs : sz c.E i ≤ N + 1) (hb : Bld c w P) (hI : IntsIn c w lv (kids c.E i)) (hk : (c.E i).kind = 35) :
    Calls Try.prog 66 #[.pointer (some ⟨c.bb, 0, none⟩), (c.E i).v, lv] w fun e w' => ∃ arr P', e = .returned (.agg arr) ∧ arr.size = 18 ∧ (∀ u ∈ arr.toList, u.oneCell' = true) ∧ St c w P (i + 1) (i + sz c.E i) w' P' := by
  have hfi := hf.2.2 i hi
  have hSi := hS i hi
  cases hSi with
  | fieldm l' _ h1 h2 h3 =>
    obtain ⟨l, q, h4, h5, h6⟩ := h3.pars (i := i) hS hfi.kin hfi.2.1
    simp only [List.mem_cons, List.not_mem_nil, or_false] at h1
    rcases h1 with h1 | h1
    · exact field_8 c N i ih hf hn lv w P hi hs hb hI h1 h2 l q h4 h5 h6
    · exact field_9 c N i ih hf hn lv w P hi hs hb hI h1 h2 l q h4 h5 h6
  | fieldp a _ h1 h2 h3 h4 =>
    simp only [List.mem_cons, List.not_mem_nil, or_false] at h1
    rcases h1 with h1 | h1 | h1 | h1
    · exact field_0 c N i ih hf hn lv w P hi hs hb hI h1 h2 a h3 h4
    · exact field_1 c N i ih hf hn lv w P hi hs hb hI h1 h2 a h3 h4
    · exact field_4 c N i ih hf hn lv w P hi hs hb hI h1 h2 a h3 h4
    · exact field_5 c N i ih hf hn lv w P hi hs hb hI h1 h2 a h3 h4
  | fieldem a l' _ h1 h2 h3 h4 h5 =>
    have hk2 := hfi.kin
    rw [h3] at hk2
    obtain ⟨-, -, -, hk3⟩ := hk2.cons_inv
    obtain ⟨l, q, rfl, h7, h8⟩ := h5.pars (i := i) hS hk3 hfi.2.1
    exact field_10 c N i ih hf hn lv w P hi hs hb hI h1 h2 a l q h3 h4 h7 h8
  | fieldep a b _ h1 h2 h3 h4 h5 =>
    simp only [List.mem_cons, List.not_mem_nil, or_false] at h1
    rcases h1 with h1 | h1
    · exact field_2 c N i ih hf hn lv w P hi hs hb hI h1 h2 a b h3 h4 h5
    · exact field_6 c N i ih hf hn lv w P hi hs hb hI h1 h2 a b h3 h4 h5
  | _ => simp_all

theorem arr18 {arr : Array Value} (h : arr.size = 18) : ∃ e0' e1' e2' e3' e4' e5' e6' e7' e8' e9' e10' e11' e12' e13' e14' e15' e16' e17', arr = #[e0', e1', e2', e3', e4', e5', e6', e7', e8', e9', e10', e11', e12', e13', e14', e15', e16', e17'] := by
  obtain ⟨l⟩ := arr
  simp at h
  obtain _ | ⟨e0', l⟩ := l
  · simp at h
  obtain _ | ⟨e1', l⟩ := l
  · simp at h
  obtain _ | ⟨e2', l⟩ := l
  · simp at h
  obtain _ | ⟨e3', l⟩ := l
  · simp at h
  obtain _ | ⟨e4', l⟩ := l
  · simp at h
  obtain _ | ⟨e5', l⟩ := l
  · simp at h
  obtain _ | ⟨e6', l⟩ := l
  · simp at h
  obtain _ | ⟨e7', l⟩ := l
  · simp at h
  obtain _ | ⟨e8', l⟩ := l
  · simp at h
  obtain _ | ⟨e9', l⟩ := l
  · simp at h
  obtain _ | ⟨e10', l⟩ := l
  · simp at h
  obtain _ | ⟨e11', l⟩ := l
  · simp at h
  obtain _ | ⟨e12', l⟩ := l
  · simp at h
  obtain _ | ⟨e13', l⟩ := l
  · simp at h
  obtain _ | ⟨e14', l⟩ := l
  · simp at h
  obtain _ | ⟨e15', l⟩ := l
  · simp at h
  obtain _ | ⟨e16', l⟩ := l
  · simp at h
  obtain _ | ⟨e17', l⟩ := l
  · simp at h
  obtain _ | ⟨z, l⟩ := l
  · exact ⟨_, _, _, _, _, _, _, _, _, _, _, _, _, _, _, _, _, _, rfl⟩
  · simp at h

theorem infoOf : (Try.prog.info? 146).map (fun i => (i.zero, i.size, i.bytes)) = some (some (.agg #[.pointer none, .pointer none, .slice none 0 0, .slice none 0 0, .slice none 0 0, .slice none 0 0, .nilIface, .nilIface, .nilIface, .pointer none, .string ⟨#[]⟩, .int .i64 0, .int .i64 0, .int .i64 0, .int .i64 0, .int .i64 0, .int .i64 0, .bool false]), 18, 240) := by kernel_rfl

/-- A struct that was made right ahead is stored whole. -/
theorem wpList_store_new {P : Program} {ops : Array Oper} {rest : List Oper} {op : Oper} {a : Act} {w : World} {Q : Exit → Act → World → Prop} (hgd : op.guard = none) (ty : TypeId) (x y : Operand) (ho : op.op = .store ty x y) (hdst : op.dst = none)
    (cells : Array Value) {old : Array Value} {t : TypeId} (hx : a.eval x = .pointer (some ⟨w.heap.size, 0, none⟩)) (hy : a.eval y = .agg cells)
    (hi : (P.info? ty).map (·.size) = some cells.size) (hs : old.size = cells.size) (h1 : cells.all (·.oneCell') = true)
    (h : wpList P ops Q rest a (w.alloc (.cells cells t))) : wpList P ops Q (op :: rest) a (w.alloc (.cells old t)) := by
  refine wpList_store_row hgd ty x y ho w.heap.size cells hx hy (block_new w _) hi hs h1 ?_
  rw [hdst]
  have e : (w.alloc (.cells old t)).setRow w.heap.size cells = w.alloc (.cells cells t) := by
    unfold World.setRow World.alloc
    simp only [World.mk.injEq, true_and, and_true]
    refine Array.ext_getElem? fun k => ?_
    rw [Array.getElem?_modify]
    by_cases hk : w.heap.size = k
    · subst hk; simp
    · rw [if_neg hk, Array.getElem?_push, Array.getElem?_push, if_neg (fun h => hk h.symm), if_neg (fun h => hk h.symm)]
  rw [e]
  exact h

/-- A member of an object. -/
def Mem (c : Ctx) (k : Nat) : Prop := (c.E k).kind = 35 ∨ ((c.E k).kind = 36 ∧ ∃ a, kids c.E k = [a] ∧ (c.E a).kind = 32) ∨ ((c.E k).kind = 37 ∧ (c.E k).flag = 0 ∧ ∃ a, kids c.E k = [a] ∧ ex (c.E a)) ∨ ((c.E k).kind = 37 ∧ (c.E k).flag = 1 ∧ ∃ a b, kids c.E k = [a, b] ∧ ex (c.E a) ∧ ex (c.E b))

theorem Shape.mem {c : Ctx} {k : Nat} (h : Shape c.E (c.E k) (kids c.E k)) (hk : (c.E k).kind = 35 ∨ (c.E k).kind = 36 ∨ (c.E k).kind = 37) : Mem c k := by
  rcases hk with hk | hk | hk
  · exact .inl hk
  · cases h with
    | mlocal a _ h1 h2 => exact .inr (.inl ⟨hk, a, h1, h2⟩)
    | _ => simp_all
  · cases h with
    | massert1 a _ h1 h2 h3 => exact .inr (.inr (.inl ⟨hk, h1, a, h2, h3⟩))
    | massert2 a b _ h1 h2 h3 h4 => exact .inr (.inr (.inr ⟨hk, h1, a, b, h2, h3, h4⟩))
    | _ => simp_all

theorem Fit.len1 {E : Nat → Nd} {n i : Nat} (hS : Shape E (E i) (kids E i)) (hk : (E i).kind = 35) : 1 ≤ (kids E i).length := by
  cases hS with
  | fieldm l' _ h1 h2 h3 => obtain ⟨l, q, h4, -, -⟩ := h3; rw [h4]; simp
  | fieldp a _ h1 h2 h3 h4 => rw [h3]; simp
  | fieldem a l' _ h1 h2 h3 h4 h5 => rw [h3]; simp
  | fieldep a b _ h1 h2 h3 h4 h5 => rw [h3]; simp
  | _ => simp_all

set_option maxRecDepth 100000 in
set_option maxHeartbeats 6400000 in
theorem members_any (c : Ctx) (N : Nat) (ih : NodeTo c N) (hf : Fit c.E c.n) (hS : ∀ i, i < c.n → Shape c.E (c.E i) (kids c.E i)) (hn : c.n ≤ 400) (l : List Nat) (lo hi : Nat) (lv : Value) (w : World) (P : Nat → Value) (hK : Kin (sz c.E) lo hi l) (hhi : hi ≤ c.n) (hm : ∀ k ∈ l, Mem c k) (hs : ∀ k ∈ l, sz c.E k ≤ N) (hb : Bld c w P) (hl : IntsIn c w lv l) :
    Calls Try.prog 63 #[.pointer (some ⟨c.bb, 0, none⟩), lv] w fun e w' => ∃ ao n cap P', e = .returned (.slice ao n cap) ∧ St c w P lo hi w' P' := by
  obtain ⟨ao, cap, rfl⟩ := hl.form
  have HB := Lib.hid hb
  have HL := Lib.hid hl
  have HK := Lib.hid hK
  have HX := Lib.hid hm
  have HS := Lib.hid hs
  have IH := Lib.hid ih
  have HF := Lib.hid hf
  have HSh := Lib.hid hS
  have hlen := hK.len
  have hpb := hb.ltp
  clear hb hl hK hm hs ih hf hS
  go_enter Try.func63, Try.ntmps63
  go_wp2_with fail
  go_loopw [5, 15] (fun v i wr => ∃ (j m : Nat) (P1 : Nat → Value) (xs : List Value), i = .int .i64 j ∧ j ≤ l.length ∧ Ahead l lo hi j m ∧ St c w P lo m wr P1 ∧ wr.ownsRow w.heap.size 146 18 v j xs) (fun _ i _ => l.length - (intOf i).toNat)
  case atStart => exact ⟨0, lo, P, [], rfl, Nat.zero_le _, Ahead.zero HK.out, St.refl HB.out lo, World.ownsRow_nil _ _ _ _⟩
  case round =>
    obtain ⟨j, m, P1, xs, rfl, hj, hA, hSt, hrow⟩ := hrel
    have HA := Lib.hid hA
    have HT := Lib.hid hSt
    have HR := Lib.hid hrow
    have HBr := Lib.hid hSt.bld
    have hsr := hSt.grown.size
    clear hA hSt hrow
    by_cases hlt : j < l.length
    · obtain ⟨k, hk⟩ : ∃ k, l[j]? = some k := ⟨_, List.getElem?_eq_getElem hlt⟩
      obtain rfl := HA.out.1 k hk
      have hkm := List.mem_of_getElem? hk
      obtain ⟨k1, k2, k3⟩ := HK.out.get hk
      have hkn : m < c.n := by omega
      have hsm := HS.out m hkm
      have hab := HB.out.lta hkn
      have HLr := Lib.hid (HL.out.st HT.out)
      obtain ⟨g, o, rfl, hg, hc⟩ := HLr.out.get hk
      have HM := Lib.hid (HX.out m hkm)
      have HKk := Lib.hid hk
      clear hk
      have c0 := HBr.out.c0
      obtain ⟨q0, q1, q2, q3, q4⟩ := HBr.out.t m hkn
      go_wp2_with fail
      go_region_held3 (fun w' => w'.cell? ⟨c.bb, 0, none⟩ = some (.slice (some c.a) c.n c.cap) ∧ w'.cell? (c.a.add (m * 5)) = some (.int .i64 (c.E m).kind) ∧ w'.cell? ⟨(c.a.add (m * 5)).block, (c.a.add (m * 5)).off + 1, none⟩ = some (.int .i64 (c.E m).op) ∧ w'.cell? ⟨(c.a.add (m * 5)).block, (c.a.add (m * 5)).off + 2, none⟩ = some (.string (c.E m).text) ∧ w'.cell? ⟨(c.a.add (m * 5)).block, (c.a.add (m * 5)).off + 3, none⟩ = some (.int .i64 (c.E m).flag) ∧ w'.cell? ⟨(c.a.add (m * 5)).block, (c.a.add (m * 5)).off + 4, none⟩ = some (.int .i64 (c.E m).size)) (first | with_reducible exact ⟨c0, q0, q1, q2, q3, q4⟩ | with_reducible exact ⟨cell_past _ c0, cell_past _ q0, cell_past _ q1, cell_past _ q2, cell_past _ q3, cell_past _ q4⟩ | with_reducible exact ⟨past5 (cell_later hb1 c0) n2, past5 (cell_later hb1 q0) n3, past5 (cell_later hb1 q1) n3, past5 (cell_later hb1 q2) n3, past5 (cell_later hb1 q3) n3, past5 (cell_later hb1 q4) n3⟩ | with_reducible exact ⟨cell_later hb1 c0, cell_later hb1 q0, cell_later hb1 q1, cell_later hb1 q2, cell_later hb1 q3, cell_later hb1 q4⟩ | with_reducible exact ⟨cell_past _ (cell_later hb1 c0), cell_past _ (cell_later hb1 q0), cell_past _ (cell_later hb1 q1), cell_past _ (cell_later hb1 q2), cell_past _ (cell_later hb1 q3), cell_past _ (cell_later hb1 q4)⟩ | with_reducible exact ⟨cell_drew c0, cell_drew q0, cell_drew q1, cell_drew q2, cell_drew q3, cell_drew q4⟩ | with_reducible exact ⟨cell_drew (cell_past _ c0), cell_drew (cell_past _ q0), cell_drew (cell_past _ q1), cell_drew (cell_past _ q2), cell_drew (cell_past _ q3), cell_drew (cell_past _ q4)⟩) (first | (go_at_call 43; refine (kids_any c m _ P1 HF.out hn hkn (HBr.out.below (by go_grown))).mono ?_; rintro e w1 ⟨v, rfl, h1, h2⟩; have hb1 : Below wr.heap.size wr w1 := below_step (Nat.le_refl _) (by go_grown) h2; have n0 := World.new_ne w1 _ (cell_later hb1 c0); have n1 := World.new_ne w1 _ (cell_later hb1 q0); obtain ⟨ao, cap, rfl⟩ := (h1 _ (fun _ _ _ => rfl)).form; have HI := Lib.hid (show Far c _ w1 _ (kids c.E m) from h1); clear h1; (try (have hz := kept_new h2 (n := wr.heap.size) rfl; obtain ⟨z0, z1, z2, z3, z4, y0, y1, y2, y3, y4⟩ := cells5 hz; have n2 := World.new_ne wr _ c0; have n3 := World.new_ne wr _ q0))))
      all_goals
        obtain ⟨W, nb, hW, hnb, HV⟩ : ∃ W nb, W = _ ∧ nb = _ ∧ Hid (Var c (.slice ao (kids c.E m).length cap) (kids c.E m) wr W nb (c.E m)) := by first | exact ⟨_, _, rfl, rfl, Lib.hid (var3 (x := c.E m) hb1 HI.out hz (by simp))⟩ | exact ⟨_, _, rfl, rfl, Lib.hid (var2 (x := c.E m) hb1 HI.out)⟩
        rw [← hW]
        rw [← hnb]
        clear hW hnb
        clear c0 q0 q1 q2 q3 q4 HI
        revert HV
        revert W nb
        revert ao cap
      clear h2 hb1 n0 n1
      rename_i hHeld
      clear hHeld w1
      refine ?join
      rotate_left
      · exact ?join
      intro ao cap W nb HV
      all_goals
        obtain ⟨z0, z1, z2, z3, z4, y0, y1, y2, y3, y4⟩ := cells5 HV.out.2.2.2
        have hsW := HV.out.2.1.size
        have HTW := Lib.hid (HT.out.below HV.out.2.1)
        have HRW := Lib.hid (own_below HR.out HV.out.2.1)
        obtain ⟨ao2, cp2, rfl⟩ := owns_slice HR.out
        rcases HM.out with hk35 | ⟨hk36, a, h0, ha32⟩ | ⟨hk37, hfl, a, h0, hxa⟩ | ⟨hk37, hfl, a, b, h0, hxa, hxb⟩
        · have hl1 := Fit.len1 (n := c.n) (HSh.out m hkn) hk35
          have hnx : ¬ ex (c.E m) := by unfold ex; omega
          have HC := Lib.hid (field_any c N m IH.out HF.out HSh.out hn _ W P1 hkn (by omega) HTW.out.bld HV.out.1 hk35)
          have hl2 : (0 : Int) < ((kids c.E m).length : Int) := by omega
          obtain ⟨kd, hkd⟩ : ∃ kd, (c.E m).kind = kd := ⟨_, rfl⟩
          have z0' : W.cell? ⟨nb, 0, none⟩ = some (.int .i64 35) := by rw [← hk35]; exact z0
          have HK35 := Lib.hid hk35
          have hvv : (c.E m).v = .agg #[.int .i64 35, .int .i64 (c.E m).op, .string (c.E m).text, .int .i64 (c.E m).flag, .int .i64 (c.E m).size] := by unfold Nd.v; rw [hk35]
          rw [hvv] at HC
          clear z0 hk35 hkd hvv
          go_wp2_with (first | (go_at_call 66; refine HC.out.mono ?_; rintro e w3 ⟨arr, P2, rfl, ha18, haone, h2⟩; obtain ⟨e0', e1', e2', e3', e4', e5', e6', e7', e8', e9', e10', e11', e12', e13', e14', e15', e16', e17', rfl⟩ := arr18 ha18; have HONE := Lib.hid haone; clear haone ha18; have hs3 := h2.grown.size; have H2 := Lib.hid (h2.skip hnx); have HR1 := Lib.hid ((h2.skip hnx).row HRW.out hpb); clear h2) | (at_builtin; refine wpList_append_run rfl (.tmp 41) (.tmp 46) 101 rfl (appS (wr := w3) (B := w.heap.size) 101 101 146 Try.underlying101 infoOf rfl (by decide) HR1.out (by omega) (grown_of_below (by go_grown)) (by omega) (by omega) [e0', e1', e2', e3', e4', e5', e6', e7', e8', e9', e10', e11', e12', e13', e14', e15', e16', e17'] rfl HONE.out _ _ (cells_new (by simp))) ?_; rintro v1 w2 ⟨hown2, hg2, hbb⟩; have HO2 := Lib.hid hown2; have HG2 := Lib.hid hg2; clear hown2 hg2 hbb))
          go_roundw
          case rel => exact ⟨j + 1, m + sz c.E m, P2, _, by go_num, by omega, Ahead.succ HK.out HKk.out, ((HTW.out.seq H2.out k1 (by omega) HB.out).below (by go_grown)).append HB.out hab (own_below HR1.out (by go_grown)) HG2.out (by decide), HO2.out⟩
          case measure => first | (simp [intOf]; done) | (simp [intOf]; omega)
        · obtain ⟨a1, a2, a3, a4, a5⟩ := HF.out.kid1 hkn h0
          have hnx : ¬ ex (c.E m) := by unfold ex; omega
          have hl1 : (kids c.E m).length = 1 := by rw [h0]; rfl
          obtain ⟨g2, o2, rfl, hg2', hc2⟩ := HV.out.1.get (i := 0) (k := a) (by rw [h0]; rfl)
          rw [Nat.add_zero] at hc2
          have HC := Lib.hid (bind_any c N a IH.out HF.out hn W P1 a4 (Shape.bound HSh.out HF.out a4 ha32 (by omega)) HTW.out.bld)
          have H1 := Lib.hid a1
          have H3 := Lib.hid a3
          rw [hk36] at z0
          clear a1 a3 h0
          go_wp2_with (first | (go_at_call 59; refine HC.out.mono ?_; rintro e w3 ⟨nm, T, y, fn, P2, rfl, h2⟩; have hs3 := h2.grown.size; have H2 := Lib.hid ((h2.cong H1.out H3.out).skip hnx); have HR1 := Lib.hid (h2.row HRW.out hpb); clear h2) | (at_builtin; refine wpList_append_run rfl (.tmp 64) (.tmp 70) 101 rfl (appS (wr := w3) (B := w.heap.size) 101 101 146 Try.underlying101 infoOf rfl (by decide) HR1.out (by omega) (grown_of_below (by go_grown)) (by omega) (by omega) [.pointer fn, .pointer (some ⟨w3.heap.size + 1, 0, none⟩), .slice none 0 0, .slice none 0 0, .slice none 0 0, .slice none 0 0, .nilIface, .iface T (.pointer (some ⟨y, 0, none⟩)), .nilIface, .pointer none, .string ⟨#[]⟩, .int .i64 0, .int .i64 0, .int .i64 0, .int .i64 0, .int .i64 4, .int .i64 2, .bool false] rfl (fun u hu => List.all_eq_true.1 (by rfl : List.all [.pointer fn, .pointer (some ⟨w3.heap.size + 1, 0, none⟩), .slice none 0 0, .slice none 0 0, .slice none 0 0, .slice none 0 0, .nilIface, .iface T (.pointer (some ⟨y, 0, none⟩)), .nilIface, .pointer none, .string ⟨#[]⟩, .int .i64 0, .int .i64 0, .int .i64 0, .int .i64 0, .int .i64 4, .int .i64 2, .bool false] (·.oneCell') = true) u hu) _ _ (cells_new (by simp))) ?_; rintro v1 w2 ⟨hown2, hg2, hbb⟩; have HO2 := Lib.hid hown2; have HG2 := Lib.hid hg2; clear hown2 hg2 hbb))
          go_roundw
          case rel => exact ⟨j + 1, m + sz c.E m, P2, _, by go_num, by omega, Ahead.succ HK.out HKk.out, ((HTW.out.seq H2.out k1 (by omega) HB.out).below (by go_grown)).append HB.out hab (own_below HR1.out (by go_grown)) HG2.out (by decide), HO2.out⟩
          case measure => first | (simp [intOf]; done) | (simp [intOf]; omega)
        · obtain ⟨a1, a2, a3, a4, a5⟩ := HF.out.kid1 hkn h0
          have hnx : ¬ ex (c.E m) := by unfold ex; omega
          have hl1 : (kids c.E m).length = 1 := by rw [h0]; rfl
          obtain ⟨g2, o2, rfl, hg2', hc2⟩ := HV.out.1.get (i := 0) (k := a) (by rw [h0]; rfl)
          rw [Nat.add_zero] at hc2
          have HC := Lib.hid ((St.refl HTW.out.bld a).node IH.out HTW.out.bld (Nat.le_refl _) a4 hxa (by omega) a2)
          have hnb : some nb ≠ some c.pb := by have := HV.out.2.2.1; simp; omega
          have H1 := Lib.hid a1
          have H3 := Lib.hid a3
          rw [hk37] at z0
          rw [hfl] at z3
          clear a1 a3 h0
          go_wp2_with (first | (refine wpList_store_new rfl 146 (.tmp 12) (.tmp 94) rfl rfl #[.pointer none, .pointer none, .slice none 0 0, .slice none 0 0, .slice none 0 0, .slice none 0 0, .nilIface, .iface T (.pointer (some ⟨x, 0, none⟩)), .nilIface, .pointer none, .string ⟨#[]⟩, .int .i64 0, .int .i64 0, .int .i64 0, .int .i64 0, .int .i64 0, .int .i64 2, .bool false] rfl rfl (by kernel_rfl) rfl (oneAll rfl) ?_) | (refine wpList_load_row rfl 146 (.tmp 12) rfl w3.heap.size #[.pointer none, .pointer none, .slice none 0 0, .slice none 0 0, .slice none 0 0, .slice none 0 0, .nilIface, .iface T (.pointer (some ⟨x, 0, none⟩)), .nilIface, .pointer none, .string ⟨#[]⟩, .int .i64 0, .int .i64 0, .int .i64 0, .int .i64 0, .int .i64 0, .int .i64 2, .bool false] rfl (block_new w3 _) Try.underlying146 rfl (by kernel_rfl) ?_; simp only [Act.put, List.setIfInBounds_toArray, List.set_cons_zero, List.set_cons_succ]) | (go_at_call 31; refine HC.out.mono ?_; rintro e w3 ⟨P2, T, x, rfl, -, -, -, h2, -⟩; have hs3 := h2.grown.size; have t3 := h2.grown.cell z3 hnb; have t3' := (fun o => cell_past o t3); have H2 := Lib.hid ((h2.cong H1.out H3.out).skip hnx); have HR1 := Lib.hid (h2.row HRW.out hpb); clear h2) | (at_builtin; refine wpList_append_run rfl (.tmp 104) (.tmp 106) 101 rfl (appS (wr := w3) (B := w.heap.size) 101 101 146 Try.underlying101 infoOf rfl (by decide) HR1.out (by omega) (grown_of_below (by go_grown)) (by omega) (by omega) [.pointer none, .pointer none, .slice none 0 0, .slice none 0 0, .slice none 0 0, .slice none 0 0, .nilIface, .iface T (.pointer (some ⟨x, 0, none⟩)), .nilIface, .pointer none, .string ⟨#[]⟩, .int .i64 0, .int .i64 0, .int .i64 0, .int .i64 0, .int .i64 0, .int .i64 2, .bool false] rfl (fun u hu => List.all_eq_true.1 (by rfl : List.all [.pointer none, .pointer none, .slice none 0 0, .slice none 0 0, .slice none 0 0, .slice none 0 0, .nilIface, .iface T (.pointer (some ⟨x, 0, none⟩)), .nilIface, .pointer none, .string ⟨#[]⟩, .int .i64 0, .int .i64 0, .int .i64 0, .int .i64 0, .int .i64 0, .int .i64 2, .bool false] (·.oneCell') = true) u hu) _ _ (cells_new (by simp))) ?_; rintro v1 w2 ⟨hown2, hg2, hbb⟩; have HO2 := Lib.hid hown2; have HG2 := Lib.hid hg2; clear hown2 hg2 hbb))
          go_roundw
          case rel => exact ⟨j + 1, m + sz c.E m, P2, _, by go_num, by omega, Ahead.succ HK.out HKk.out, ((HTW.out.seq H2.out k1 (by omega) HB.out).below (by go_grown)).append HB.out hab (own_below HR1.out (by go_grown)) HG2.out (by decide), HO2.out⟩
          case measure => first | (simp [intOf]; done) | (simp [intOf]; omega)
        · obtain ⟨a1, a2, a3, a4, a5, a6, a7, a8⟩ := HF.out.kid2 hkn h0
          have hnx : ¬ ex (c.E m) := by unfold ex; omega
          have hl1 : (kids c.E m).length = 2 := by rw [h0]; rfl
          obtain ⟨g2, o2, rfl, hg2', hc2⟩ := HV.out.1.get (i := 0) (k := a) (by rw [h0]; rfl)
          obtain ⟨g', o', he, -, hd2⟩ := HV.out.1.get (i := 1) (k := b) (by rw [h0]; rfl)
          obtain ⟨rfl, rfl⟩ : g2 = g' ∧ o2 = o' := by simpa using he
          rw [Nat.add_zero] at hc2
          have hG2 : some g2 ≠ some c.pb := by simpa using hg2'
          have HC := Lib.hid ((St.refl HTW.out.bld a).node IH.out HTW.out.bld (Nat.le_refl _) (by omega) hxa (by omega) a2)
          have HD := Lib.hid (fun (w1 : World) (P1' : Nat → Value) (h1 : St c W P1 a (a + sz c.E a) w1 P1') => (h1.cong rfl a3.symm).node IH.out HTW.out.bld (by omega) (by omega) hxb (by omega) a4)
          have hnb : some nb ≠ some c.pb := by have := HV.out.2.2.1; simp; omega
          have H1 := Lib.hid a1
          have H5 := Lib.hid a5
          rw [hk37] at z0
          rw [hfl] at z3
          clear a1 a3 a5 h0 he
          go_upto_region 17 with (first | (refine wpList_store_new rfl 146 (.tmp 12) (.tmp 94) rfl rfl #[.pointer none, .pointer none, .slice none 0 0, .slice none 0 0, .slice none 0 0, .slice none 0 0, .nilIface, .iface T (.pointer (some ⟨x, 0, none⟩)), .nilIface, .pointer none, .string ⟨#[]⟩, .int .i64 0, .int .i64 0, .int .i64 0, .int .i64 0, .int .i64 0, .int .i64 2, .bool false] rfl rfl (by kernel_rfl) rfl (oneAll rfl) ?_) | (go_at_call_of 31 (Value.int .i64 (a : Int)); refine HC.out.mono ?_; rintro e w3 ⟨P2, T, x, rfl, -, -, -, h2, -⟩; have hs3 := h2.grown.size; have t3 := h2.grown.cell z3 hnb; have t3' := (fun o => cell_past o t3); have td := h2.grown.cell hd2 hG2; have td' := (fun o => cell_past o td); have H2 := Lib.hid h2; have HR3 := Lib.hid (h2.row HRW.out hpb); clear h2) | (go_at_call_of 31 (Value.int .i64 (b : Int)); refine (HD.out _ _ (H2.out.below (by go_grown))).mono ?_; rintro e w4 ⟨P4, T4, x4, rfl, -, -, -, h4, h5⟩; have hpk := h5.block (b := w3.heap.size) (block_new w3 _) (by omega); obtain ⟨l0, l1, l2, l3, l4, l5, l6, l7, l8, l9, l10, l11, l12, l13, l14, l15, l16, l17⟩ := cells18 hpk; have fp8 := free_of_block (i := 8) hpk; have hs4 := h4.grown.size; have hs5 := h5.grown.size; have H4 := Lib.hid (And.intro h4 hpk); have HR4 := Lib.hid (h5.row (own_below HR3.out (by go_grown)) hpb); have HR5 : Hid ((w4.setCell ⟨w3.heap.size, 8, none⟩ (.iface T4 (.pointer (some ⟨x4, 0, none⟩)))).ownsRow w.heap.size 146 18 (.slice ao2 j cp2) j xs) := Lib.hid (ownsRow_setCell_other HR4.out (fun h => Nat.lt_irrefl _ (HR3.out.lt w3.heap.size h).2) _); have hs35 : w3.heap.size + 1 ≤ w4.heap.size := (by simpa using hs5); clear h4 h5 hpk))
          obtain ⟨W5, hW5⟩ : ∃ W5, w4.setCell ⟨w3.heap.size, 8, none⟩ (.iface T4 (.pointer (some ⟨x4, 0, none⟩))) = W5 := ⟨_, rfl⟩
          rw [hW5]
          have hpk5 : W5.heap[w3.heap.size]? = some (.cells #[.pointer none, .pointer none, .slice none 0 0, .slice none 0 0, .slice none 0 0, .slice none 0 0, .nilIface, .iface T (.pointer (some ⟨x, 0, none⟩)), .iface T4 (.pointer (some ⟨x4, 0, none⟩)), .pointer none, .string ⟨#[]⟩, .int .i64 0, .int .i64 0, .int .i64 0, .int .i64 0, .int .i64 0, .int .i64 2, .bool false] 146 (0, 0)) := by
            rw [← hW5]
            have := block_setCell (i := 8) (u := .iface T4 (.pointer (some ⟨x4, 0, none⟩))) H4.out.2
            simpa using this
          have HR6 : Hid (W5.ownsRow w.heap.size 146 18 (.slice ao2 j cp2) j xs) := Lib.hid (by rw [← hW5]; exact HR5.out)
          have H6 : Hid (St c w P lo (m + sz c.E m) W5 P4) := Lib.hid (by rw [← hW5]; exact (HTW.out.seq ((H4.out.1.cong H1.out H5.out).skip hnx) k1 (by omega) HB.out).set (i := 8) HB.out hab (by omega) H4.out.2 (by decide) (.iface T4 (.pointer (some ⟨x4, 0, none⟩))))
          have hs6 : w.heap.size ≤ W5.heap.size := H6.out.grown.size
          clear l0 l1 l2 l3 l4 l5 l6 l7 l8 l9 l10 l11 l12 l13 l14 l15 l16 l17 fp8 hW5
          clear HR5 H4
          go_wp2_with (first | (refine wpList_load_row rfl 146 (.tmp 12) rfl w3.heap.size #[.pointer none, .pointer none, .slice none 0 0, .slice none 0 0, .slice none 0 0, .slice none 0 0, .nilIface, .iface T (.pointer (some ⟨x, 0, none⟩)), .iface T4 (.pointer (some ⟨x4, 0, none⟩)), .pointer none, .string ⟨#[]⟩, .int .i64 0, .int .i64 0, .int .i64 0, .int .i64 0, .int .i64 0, .int .i64 2, .bool false] rfl hpk5 Try.underlying146 rfl (by kernel_rfl) ?_; simp only [Act.put, List.setIfInBounds_toArray, List.set_cons_zero, List.set_cons_succ]) | (at_builtin; refine wpList_append_run rfl (.tmp 104) (.tmp 106) 101 rfl (appS (wr := W5) (B := w.heap.size) 101 101 146 Try.underlying101 infoOf rfl (by decide) HR6.out (by omega) (grown_of_below (by go_grown)) (by omega) (by omega) [.pointer none, .pointer none, .slice none 0 0, .slice none 0 0, .slice none 0 0, .slice none 0 0, .nilIface, .iface T (.pointer (some ⟨x, 0, none⟩)), .iface T4 (.pointer (some ⟨x4, 0, none⟩)), .pointer none, .string ⟨#[]⟩, .int .i64 0, .int .i64 0, .int .i64 0, .int .i64 0, .int .i64 0, .int .i64 2, .bool false] rfl (fun u hu => List.all_eq_true.1 (by rfl : List.all [.pointer none, .pointer none, .slice none 0 0, .slice none 0 0, .slice none 0 0, .slice none 0 0, .nilIface, .iface T (.pointer (some ⟨x, 0, none⟩)), .iface T4 (.pointer (some ⟨x4, 0, none⟩)), .pointer none, .string ⟨#[]⟩, .int .i64 0, .int .i64 0, .int .i64 0, .int .i64 0, .int .i64 0, .int .i64 2, .bool false] (·.oneCell') = true) u hu) _ _ (cells_new (by simp))) ?_; rintro v1 w2 ⟨hown2, hg2, hbb⟩; have HO2 := Lib.hid hown2; have HG2 := Lib.hid hg2; clear hown2 hg2 hbb))
          go_roundw
          case rel => exact ⟨j + 1, m + sz c.E m, P4, _, by go_num, by omega, Ahead.succ HK.out HKk.out, ((H6.out).below (by go_grown)).append HB.out hab (own_below HR6.out (by go_grown)) HG2.out (by decide), HO2.out⟩
          case measure => first | (simp [intOf]; done) | (simp [intOf]; omega)
    · obtain rfl : j = l.length := by omega
      obtain rfl := HA.out.2.1 rfl
      obtain ⟨ao2, cp2, rfl⟩ := owns_slice HR.out
      go_wp2
      go_ret
      exact ⟨_, _, _, _, rfl, HT.out⟩
end Go.Proofs.Ytkpfbgeaodopoaa.fnDirect
