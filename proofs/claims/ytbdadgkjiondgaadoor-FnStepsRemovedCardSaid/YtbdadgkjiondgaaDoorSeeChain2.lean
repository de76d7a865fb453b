/-
  FnSeen, FnStepsRemoved: the package's chain of steps, and what it says of the fields.
-/
import Derived.Test.YtbdadgkjiondgaaDoorSeeChain
namespace Go.Proofs.YtbdadgkjiondgaaDoor.see
open Go.RowKit Go.Maps Go.WideMaps
set_option linter.unusedSimpArgs false
set_option linter.unusedVariables false

/-- A step of the package, and where its names and ways lie. -/
structure CE where
  rem : ByteArray
  n : Nat
  na : Option Addr
  nc : Nat
  S : Nat → ByteArray
  ha : Option Addr
  hc : Nat
  hd : Nat → Int
  is : Bool

def CeIn (w : World) (a : Addr) (e : CE) : Prop :=
  w.cell? a = some (.string e.rem) ∧ w.cell? ⟨a.block, a.off + 1, none⟩ = some (.slice e.na e.n e.nc) ∧ w.cell? ⟨a.block, a.off + 2, none⟩ = some (.slice e.ha e.n e.hc) ∧ w.cell? ⟨a.block, a.off + 3, none⟩ = some (.bool e.is) ∧ StrsIn w e.na e.n e.nc e.S ∧ IntsIn w e.ha e.n e.hc (fun i => conv (e.hd i))

def CesIn (w : World) (c : Option Addr) (len cap : Nat) (E : Nat → CE) : Prop :=
  (c = none ∧ len = 0 ∧ cap = 0) ∨ ∃ a, c = some a ∧ len ≤ cap ∧ cap ≤ maxLen ∧ ∀ i, i < len → CeIn w (a.add (i * 4)) (E i)

theorem CeIn.below {w w' : World} {a : Addr} {e : CE} (h : CeIn w a e) (hb : Below w.heap.size w w') : CeIn w' a e := by
  obtain ⟨h0, h1, h2, h3, h4, h5⟩ := h
  exact ⟨cell_later hb h0, cell_later hb h1, cell_later hb h2, cell_later hb h3, h4.below hb, h5.below hb⟩

def spOf (e : CE) : Sp := ⟨e.is, e.rem.data.toList, e.n, fun i => (e.S i).data.toList, e.hd⟩

/-- Short enough. -/
def CeOk (e : CE) : Prop := e.rem.size ≤ 2147483647 ∧ ∀ i, i < e.n → (e.S i).size ≤ 2147483647

/-- A delete in a region that draws. -/
theorem step_delete {P : Program} {ops : Array Oper} {o : Oper} {a : Act} {w : World} {K : Act → World → Prop} {Q : Exit → Act → World → Prop} {E : Prop} {R : World → Prop}
    (hg : o.guard = none) (m x : Operand) (t k : TypeId) (hop : o.op = Op.call { callee := Callee.builtin Builtin.delete, args := #[m, x], argTypes := #[t, k] })
    (hrun : ∃ w', (Builtin.delete_ #[t, k] o.type #[a.eval m, a.eval x]).run P w = .ok (.tuple #[]) w' ∧ R w')
    (hK : ∀ w', R w' → K (a.put o.dst (.tuple #[])) w') :
    if Region.wanted o (yielded ops a.tmps) = true then Oper.wp P o a w K Q else E := by
  have hw : Region.wanted o (yielded ops a.tmps) = true := by simp [Region.wanted, hg]
  rw [if_pos hw]
  obtain ⟨w', hr, h⟩ := hrun
  unfold Oper.wp
  simp [execOp, hop, resolve, invoke, builtin, hr, Result.andThen]
  exact hK w' h

theorem HM.drop_run {w : World} {b n : Nat} {f : View} (h : HM 45 w b n f) (ty : TypeId) {s : ByteArray} (hs : s.size ≤ maxLen) :
    ∃ w', (Builtin.delete_ #[60, 9] ty #[.map (some b), .string s]).run Tryd.prog w = .ok (.tuple #[]) w' ∧ (HM 45 w' b n (drop f s.data.toList) ∧ w.grownBy w' (some b)) := by
  obtain ⟨D, h1, h2⟩ := h
  obtain ⟨w', hr, h3, h4⟩ := h1.drop lawS Tryd.underlying60 (keyOf_string_mk Tryd.underlying9 hs) ty
  exact ⟨w', hr, ⟨_, h3, h2.del _⟩, h4.grown⟩

theorem obj_sim {d : Nat} {w : World} {q b n : Nat} {f : View} (h1 : w.cell? ⟨q, 1, none⟩ = some (.map (some b))) (h2 : SM w b n f) : Obj d w (.iface 86 (.pointer (some ⟨q, 0, none⟩))) f n := by
  cases d with
  | zero => exact ⟨q, b, rfl, h1, h2⟩
  | succ d => exact .inl ⟨q, b, rfl, h1, h2⟩

/-- An object is put on another one. -/
theorem extended_any (d p1 p2 q2 n1 : Nat) (f1 : View) (w : World) (h1 : ObjP d w p1 f1 n1) (h2 : w.cell? ⟨p2, 2, none⟩ = some (.iface 86 (.pointer (some ⟨q2, 0, none⟩)))) :
    Calls Tryd.prog 28 #[.pointer (some ⟨p1, 0, none⟩), .pointer (some ⟨p2, 0, none⟩)] w
    fun e w' => ∃ p' q k v1, e = .returned (.pointer (some ⟨p', 0, none⟩)) ∧ Obj d w v1 f1 n1 ∧ w'.cell? ⟨p', 2, none⟩ = some (.iface 83 (.pointer (some ⟨q, 0, none⟩))) ∧ w'.cell? ⟨q, 0, none⟩ = some v1 ∧ w'.cell? ⟨q, 1, none⟩ = some (.iface 86 (.pointer (some ⟨q2, 0, none⟩))) ∧ w'.cell? ⟨q, 2, none⟩ = some (.int .i64 k) ∧ Below w.heap.size w w' := by
  obtain ⟨v, hv, ho⟩ := h1
  have ho' := ho.up
  have hoo := ho
  rcases ho' with ⟨p, b, rfl, -, -⟩ | ⟨p, v1, v2, k, -, -, -, -, rfl, -, -, hk, -⟩ | ⟨p, v1, b, f2, n2, rfl, hq, -, -, ho2⟩
  · refine (extended_sim p1 p2 p q2 w hv h2 0 (fun w' hb => (size_sim _ w').mono (fun e w'' h => ⟨1, h⟩))).mono ?_
    rintro e w' ⟨p', q, k, rfl, c1, c2, c3, c4, hb⟩
    exact ⟨p', q, k, _, rfl, hoo, c1, c2, c3, c4, hb⟩
  · refine (extended_ext p1 p2 p q2 w hv h2 0 (fun w' hb => (size_ext p k w' (cell_later hb hk)).mono (fun e w'' h => ⟨k, h⟩))).mono ?_
    rintro e w' ⟨p', q, k, rfl, c1, c2, c3, c4, hb⟩
    exact ⟨p', q, k, _, rfl, hoo, c1, c2, c3, c4, hb⟩
  · refine (extended_res p1 p2 p q2 w hv h2 0 (fun w' hb => size_res d w' p v1 f2 n2 (cell_later hb hq) (ho2.below d hb))).mono ?_
    rintro e w' ⟨p', q, k, rfl, c1, c2, c3, c4, hb⟩
    exact ⟨p', q, k, _, rfl, hoo, c1, c2, c3, c4, hb⟩

set_option maxRecDepth 100000 in
set_option maxHeartbeats 1600000 in
theorem chain_any (c : Option Addr) (len cap : Nat) (E : Nat → CE) (w : World) (h : CesIn w c len cap E) (hlen : len ≤ 20) (hok : ∀ i, i < len → CeOk (E i)) (hsp : ∀ i, i < len → SpOk (spOf (E i))) :
    Calls Tryd.prog 23 #[.slice c len cap] w
    fun e w' => ∃ p, e = .returned (.pointer (some ⟨p, 0, none⟩)) ∧ ObjP len w' p (madeV (fun i => spOf (E i)) len) (12 * len) ∧ Below w.heap.size w w' := by
  have HS := Lib.hid h
  have HO := Lib.hid hok
  have HP := Lib.hid hsp
  clear h hok hsp
  obtain ⟨X, hX⟩ : ∃ X, X = fun i => spOf (E i) := ⟨_, rfl⟩
  rw [← hX]
  go_enter Tryd.func23, Tryd.ntmps23
  go_wp2_with fail
  refine (simple_any ⟨false, [], 0, fun _ => [], fun _ => 0⟩ ⟨#[]⟩ none 0 (fun _ => ⟨#[]⟩) none 0 (fun _ => 0) false _ (.inl ⟨rfl, rfl, rfl⟩) (.inl ⟨rfl, rfl, rfl⟩) (by show 0 ≤ 12; omega) (fun i hi => absurd hi (by show ¬ i < 0; omega)) (fun i hi => absurd hi (by show ¬ i < 0; omega)) (fun i hi => absurd hi (by show ¬ i < 0; omega))).mono ?_
  rintro e w1 ⟨p, q, b, rfl, c1, c2, hm, hb1⟩
  have HP0 : Hid (ObjP 0 w1 p (madeV X 0) 0) := Lib.hid ⟨_, c1, obj_sim c2 hm⟩
  clear c1 c2 hm
  go_wp2_with fail
  go_loopw [3, 11] (fun v i wr => ∃ k p : Nat, k ≤ len ∧ i = .int .i64 k ∧ v = .pointer (some ⟨p, 0, none⟩) ∧ ObjP k wr p (madeV X k) (12 * k) ∧ Below w.heap.size w wr) (fun _ i _ => len - (intOf i).toNat)
  case atStart => exact ⟨0, p, Nat.zero_le _, rfl, rfl, HP0.out, hb1⟩
  case round =>
    obtain ⟨k, p', hk, rfl, rfl, hobj, hbel⟩ := hrel
    have HB := Lib.hid hobj
    have hsz := hbel.size
    clear hobj HP0 hb1
    by_cases hlt : k < len
    · obtain ⟨a, rfl, hc⟩ : ∃ a, c = some a ∧ CeIn w (a.add (k * 4)) (E k) := by
        rcases HS.out with ⟨-, h0, -⟩ | ⟨a, rfl, h1, h2, h3⟩
        · omega
        · exact ⟨a, rfl, h3 k hlt⟩
      obtain ⟨q0, q1, q2, q3, q4, q5⟩ := hc.below hbel
      have HQ4 := Lib.hid q4
      have HQ5 := Lib.hid q5
      clear q4 q5 hc
      obtain ⟨hrz, hsz2⟩ := HO.out k hlt
      have HZ := Lib.hid hsz2
      have hspk := HP.out k hlt
      have HSp := Lib.hid hspk
      have hstep : madeV X (k + 1) = stepV (madeV X k) (spOf (E k)) := by rw [hX]; rfl
      have HSt := Lib.hid hstep
      have hfew : (E k).n ≤ 12 := hspk.few
      clear hspk hstep hsz2
      have hbx : Below wr.heap.size wr (wr.alloc (.cells #[.string (E k).rem, .slice (E k).na (E k).n (E k).nc, .slice (E k).ha (E k).n (E k).hc, .bool (E k).is] 56)) := by go_grown
      cases his : (E k).is with
      | true =>
        rw [his] at q3 hbx
        have hv : stepV (madeV X k) (spOf (E k)) = drop (madeV X k) (E k).rem.data.toList := by unfold stepV; rw [if_pos (show (spOf (E k)).is = true from his)]; rfl
        rw [hv] at HSt
        clear hv
        have HBx := Lib.hid (HB.out.below hbx)
        go_wp2_with (go_at_call 27; refine (restricted_any k p' (12 * k) _ _ HBx.out (by omega)).mono ?_; rintro e w2 ⟨p2, q, v, g, rfl, hp2, hq2, hg2, hpg, hqg, ho, c1, c2, c3, hm, hb2⟩; have HM2 := Lib.hid hm; have HOb := Lib.hid ho; clear hm ho)
        have xr : w2.cell? ⟨wr.heap.size, 0, none⟩ = some (.string (E k).rem) := cell_later hb2 (cell_at rfl rfl)
        have HM2d : Hid (HM 45 w2.drew g (12 * k) (madeV X k)) := Lib.hid (HM2.out.below (Below.refl _ _).drew)
        have hb2d : Below (wr.alloc (.cells #[.string (E k).rem, .slice (E k).na (E k).n (E k).nc, .slice (E k).ha (E k).n (E k).hc, .bool true] 56)).heap.size (wr.alloc (.cells #[.string (E k).rem, .slice (E k).na (E k).n (E k).nc, .slice (E k).ha (E k).n (E k).hc, .bool true] 56)) w2.drew := hb2.drew
        have hs2 := hb2d.size
        have d1 : w2.drew.cell? ⟨p2, 2, none⟩ = some (.iface 79 (.pointer (some ⟨q, 0, none⟩))) := c1
        have d2 : w2.drew.cell? ⟨q, 0, none⟩ = some v := c2
        have d3 : w2.drew.cell? ⟨q, 1, none⟩ = some (.map (some g)) := c3
        have D2 := Lib.hid d2
        have hrz2 : (E k).rem.size ≤ maxLen := by unfold maxLen; omega
        clear HM2 hb2 c2 d2
        go_region_law (first | (refine step_delete rfl (.tmp 32) (.tmp 34) 60 9 rfl (HM2d.out.drop_run _ hrz2) ?_; rintro w3 ⟨hm3, hg3⟩; have HM3 := Lib.hid hm3; clear hm3))
        all_goals
          have hb3 : Below (wr.alloc (.cells #[.string (E k).rem, .slice (E k).na (E k).n (E k).nc, .slice (E k).ha (E k).n (E k).hc, .bool true] 56)).heap.size (wr.alloc (.cells #[.string (E k).rem, .slice (E k).na (E k).n (E k).nc, .slice (E k).ha (E k).n (E k).hc, .bool true] 56)) w3 := hb2d.grown hg3 hs2 (fun b hb => by cases hb; exact hg2)
          have e1 := hg3.cell d1 (by simpa using hpg)
          have e2 := hg3.cell D2.out (by simpa using hqg)
          have e3 := hg3.cell d3 (by simpa using hqg)
          have HF : Hid (ObjP (k + 1) w3 p2 (madeV X (k + 1)) (12 * (k + 1))) := Lib.hid (by
            rw [HSt.out]
            exact ⟨_, e1, .inr (.inr ⟨q, v, g, _, _, rfl, e2, e3, HM3.out.mono (by omega), HOb.out.below k hb3⟩)⟩)
          have hB3 : Below w.heap.size w w3 := below_step (Nat.le_refl _) hbel (hbx.trans (hb3.mono (by simp)))
          clear e1 e2 e3 hb3 d1 d3 D2 HM3 c1 c3 xr
          go_wp2
          go_roundw
          case rel => exact ⟨k + 1, p2, by omega, by go_num, rfl, HF.out, hB3⟩
          case measure => first | (simp [intOf]; done) | (simp [intOf]; omega)
      | false =>
        rw [his] at q3 hbx
        have hv : stepV (madeV X k) (spOf (E k)) = putsV (spOf (E k)) (madeV X k) (E k).n := by unfold stepV; rw [if_neg (by rw [show (spOf (E k)).is = false from his]; simp)]; rfl
        rw [hv, ← ext_sim HSp.out (madeV X k) (E k).n (Nat.le_refl _)] at HSt
        clear hv
        have HQ4x := Lib.hid (HQ4.out.below hbx)
        have HQ5x := Lib.hid (HQ5.out.below hbx)
        have HBx := Lib.hid (HB.out.below hbx)
        by_cases hk0 : k = 0
        · subst hk0
          rw [show a.add (0 * 4) = a from rfl] at q0 q1 q2 q3
          rw [show madeV X 0 = fun _ => none from rfl, ext_none] at HSt
          go_wp2_with fail
          refine (simple_any (spOf (E 0)) (E 0).rem (E 0).na (E 0).nc (E 0).S (E 0).ha (E 0).hc (fun i => conv ((E 0).hd i)) false _ HQ4x.out HQ5x.out hfew HZ.out (fun i hi => rfl) (fun i hi => ⟨HSp.out.code i hi, rfl⟩)).mono ?_
          rintro e w2 ⟨p2, q, b, rfl, c1, c2, hm, hb2⟩
          have HM2 := Lib.hid hm
          clear hm
          go_wp2
          have HF : Hid (ObjP (0 + 1) w2 p2 (madeV X (0 + 1)) (12 * (0 + 1))) := Lib.hid (by
            rw [HSt.out]
            exact ⟨_, c1, obj_sim c2 (HM2.out.mono (show (E 0).n ≤ 12 * (0 + 1) by omega))⟩)
          go_roundw
          case rel => exact ⟨0 + 1, p2, by omega, by go_num, rfl, HF.out, below_step (Nat.le_refl _) hbel (hbx.trans (hb2.mono (by simp)))⟩
          case measure => first | (simp [intOf]; done) | (simp [intOf]; omega)
        · have hkb : ((k : Int) == 0) = false := by simp; omega
          go_wp2_with (first | (go_at_call 26; refine (simple_any (spOf (E k)) (E k).rem (E k).na (E k).nc (E k).S (E k).ha (E k).hc (fun i => conv ((E k).hd i)) false _ HQ4x.out HQ5x.out hfew HZ.out (fun i hi => rfl) (fun i hi => ⟨HSp.out.code i hi, rfl⟩)).mono ?_; rintro e w2 ⟨p2, q, b, rfl, c1, c2, hm, hb2⟩; have HM2 := Lib.hid hm; clear hm; have HBy := Lib.hid (HBx.out.below hb2)) | (go_at_call 28; refine (extended_any k p' p2 q (12 * k) _ _ HBy.out c1).mono ?_; rintro e w3 ⟨p3, q3, kk, v1, rfl, ho, d1, d2, d3, d4, hb3⟩; have HOb := Lib.hid ho; clear ho))
          have HF : Hid (ObjP (k + 1) w3 p3 (madeV X (k + 1)) (12 * (k + 1))) := Lib.hid (by
            rw [HSt.out]
            exact ⟨_, d1, .inr (.inl ⟨q3, _, _, kk, _, _, 12 * k, (E k).n, rfl, d2, d3, d4, HOb.out.below k hb3, obj_sim (cell_later hb3 c2) (HM2.out.below hb3), rfl, by omega⟩)⟩)
          go_roundw
          case rel => exact ⟨k + 1, p3, by omega, by go_num, rfl, HF.out, below_step (Nat.le_refl _) (below_step (Nat.le_refl _) hbel (hbx.trans (hb2.mono (by simp)))) hb3⟩
          case measure => first | (simp [intOf]; done) | (simp [intOf]; omega)
    · obtain rfl : k = len := by omega
      go_wp2
      go_ret
      exact ⟨_, rfl, HB.out, hbel⟩

set_option maxRecDepth 100000 in
set_option maxHeartbeats 1600000 in
theorem part_any (c : Option Addr) (len cap : Nat) (E : Nat → CE) (w : World) (h : CesIn w c len cap E) (hlen : len ≤ 20) (hok : ∀ i, i < len → CeOk (E i)) (hsp : ∀ i, i < len → SpOk (spOf (E i))) :
    Calls Tryd.prog 14 #[.slice c len cap] w
    fun e w' => ∃ g, e = .returned (.map (some g)) ∧ HM 3 w' g (12 * len) (madeV (fun i => spOf (E i)) len) ∧ Below w.heap.size w w' := by
  have hbm : Below w.heap.size w (w.alloc (.map #[] 0)) := by go_grown
  have HS : Hid (CesIn (w.alloc (.map #[] 0)) c len cap E) := Lib.hid (by
    rcases h with h | ⟨a, rfl, h1, h2, h3⟩
    · exact .inl h
    · exact .inr ⟨a, rfl, h1, h2, fun i hi => (h3 i hi).below hbm⟩)
  have HO := Lib.hid hok
  have HP := Lib.hid hsp
  clear h hok hsp
  obtain ⟨f, hf⟩ : ∃ f, f = madeV (fun i => spOf (E i)) len := ⟨_, rfl⟩
  rw [← hf]
  go_enter Tryd.func14, Tryd.ntmps14
  go_wp2_with fail
  refine (chain_any c len cap E _ HS.out hlen HO.out HP.out).mono ?_
  rintro e w1 ⟨p, rfl, hobj, hb1⟩
  rw [← hf] at hobj
  clear hf
  have HB := Lib.hid hobj
  have hs1 := hb1.size
  simp at hs1
  clear hobj
  go_wp2_with fail
  refine (ofv_any len p (12 * len) _ _ HB.out (by omega)).mono ?_
  rintro e w2 ⟨b, rfl, hm, hg, hb2⟩
  have hB2 := below_step (Nat.le_refl _) (below_step (Nat.le_refl _) hbm hb1) hb2
  have hs2 := hb2.size
  have HOut0 : Hid (HM 3 w2 w.heap.size 0 (fun _ => none)) := Lib.hid (((hm_made 3 w).below hb1).below hb2)
  have hs3 : w.heap.size < w2.heap.size := by omega
  obtain ⟨D, hown, hR⟩ := hm
  have hsz := hown.size_le
  have HR := Lib.hid hR
  have HO2 := Lib.hid hown
  have hbl := hown.lt
  clear hown hR HB HS HO HP hb1 hb2
  go_wp2_with (at_range; refine wpList_range_own _ rfl _ 60 rfl 9 45 lawS Tryd.underlying60 _ b (12 * len) _ rfl HO2.out ?_; intro w0 hrg0 hg0 hs0)
  go_frame
  go_loopw [4] (fun _ wr => ∃ (left : Lit → Bool) (cnt n' : Nat), wr.ranges Tryd.prog 9 (plainElem (H := Unit) Tryd.prog 45) b w2.heap.size (12 * len) D left cnt ∧ n' + cnt ≤ 12 * len ∧ HM 3 wr w.heap.size n' (mix (fun _ => none) f left) ∧ Below w.heap.size w wr) (fun _ wr => wr.rangeLeft b w2.heap.size)
  case atStart =>
    refine ⟨_, _, 0, hrg0, by omega, ?_, hB2.grown hg0 hB2.size (fun j hj => by cases hj)⟩
    rw [mix_start HR.out]
    exact HOut0.out.kept hg0 (by simp)
  case round =>
    obtain ⟨left, cnt, n', hrg, hnc, hout, hbel⟩ := hrel
    have HRg := Lib.hid hrg
    have HOut := Lib.hid hout
    have hsz2 := hbel.size
    clear hrg hout hrg0 HO2 HOut0
    go_wp2_with (first
      | (at_next; refine next_si _ 45 Tryd.underlying45 rfl _ rfl b w2.heap.size (12 * len) D _ _ rfl HRg.out ?_ ?_)
      | go_in)
    · intro hc0 hl0
      go_wp2
      go_ret
      have := HOut.out
      rw [mix_end hl0, ext_none] at this
      exact ⟨_, rfl, HM.mono (n' := 12 * len) this (by omega), hbel⟩
    · intro x c w1 cnt1 hxs hwc hlx hat hrg1 hlt hg1 hs1 hen
      have hgx := reads_at HR.out hat
      obtain ⟨Dg, ho, hr⟩ := HOut.out
      have HA := Lib.hid (ho.kept hg1 (fun e => by have := Option.some.inj e; omega))
      have HRd := Lib.hid hr
      have hex := ext_nil_at hgx
      have HRA := Lib.hid hrg1
      have hb1 : Below w.heap.size w w1 := hbel.grown hg1 hsz2 (fun j hj => by cases hj; omega)
      clear ho hr hrg1 hat hlx hgx HOut
      go_wp2_with (first
        | (at_mapUpdate; refine wpList_mapUpdate_own _ rfl _ _ _ 41 rfl 9 3 lawS Tryd.underlying41 _ w.heap.size n' _ rfl HA.out (by unfold maxLen; omega) _ _ _ rfl rfl (keyOf_string_mk Tryd.underlying9 hxs) _ [] (plainElem_int Tryd.underlying3 hwc) ?_; intro w3 hout2 hg2; go_frame)
        | go_in)
      have hrg2 := HRA.out.kept hg2 (fun e => by have := Option.some.inj e; omega) (fun e => by have := Option.some.inj e; omega)
      go_roundw
      case rel =>
        refine ⟨_, cnt1, n' + 1, hrg2, by omega, ⟨_, hout2, ?_⟩, hb1.grown hg2 hb1.size (fun j hj => by cases hj; omega)⟩
        rw [mix_step, hex]
        exact HRd.out.put HA.out.isMap _ _
      case measure => rw [hrg2.left_eq, HRg.out.left_eq]; exact hlt
end Go.Proofs.YtbdadgkjiondgaaDoor.see
