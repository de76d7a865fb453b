/-
  FnSeen, FnStepsRemoved: the package's objects, and what they say of their fields.
-/
import Derived.Test.YtbdadgkjiondgaaDoorSeeMap
namespace Go.Proofs.YtbdadgkjiondgaaDoor.see
open Go.RowKit Go.Maps Go.WideMaps
set_option linter.unusedSimpArgs false
set_option linter.unusedVariables false

/-- An object without what its fields are. -/
def Obj : Nat → World → Value → View → Nat → Prop
  | 0, w, v, f, n => ∃ p b, v = .iface 86 (.pointer (some ⟨p, 0, none⟩)) ∧ w.cell? ⟨p, 1, none⟩ = some (.map (some b)) ∧ SM w b n f
  | d + 1, w, v, f, n => (∃ p b, v = .iface 86 (.pointer (some ⟨p, 0, none⟩)) ∧ w.cell? ⟨p, 1, none⟩ = some (.map (some b)) ∧ SM w b n f) ∨
      (∃ p v1 v2 k f1 f2 n1 n2, v = .iface 83 (.pointer (some ⟨p, 0, none⟩)) ∧ w.cell? ⟨p, 0, none⟩ = some v1 ∧ w.cell? ⟨p, 1, none⟩ = some v2 ∧ w.cell? ⟨p, 2, none⟩ = some (.int .i64 k) ∧ Obj d w v1 f1 n1 ∧ Obj d w v2 f2 n2 ∧ f = ext f1 f2 ∧ n1 + n2 ≤ n) ∨
      (∃ p v1 b f1 n1, v = .iface 79 (.pointer (some ⟨p, 0, none⟩)) ∧ w.cell? ⟨p, 0, none⟩ = some v1 ∧ w.cell? ⟨p, 1, none⟩ = some (.map (some b)) ∧ HM 45 w b n f ∧ Obj d w v1 f1 n1)

theorem Obj.below : ∀ (d : Nat) {w w' : World} {v : Value} {f : View} {n : Nat}, Obj d w v f n → Below w.heap.size w w' → Obj d w' v f n
  | 0, w, w', v, f, n, h, hb => by
    obtain ⟨p, b, h1, h2, h3⟩ := h
    exact ⟨p, b, h1, cell_later hb h2, h3.below hb⟩
  | d + 1, w, w', v, f, n, h, hb => by
    rcases h with ⟨p, b, h1, h2, h3⟩ | ⟨p, v1, v2, k, f1, f2, n1, n2, h1, h2, h3, h4, h5, h6, h7, h8⟩ | ⟨p, v1, b, f1, n1, h1, h2, h3, h4, h5⟩
    · exact .inl ⟨p, b, h1, cell_later hb h2, h3.below hb⟩
    · exact .inr (.inl ⟨p, v1, v2, k, f1, f2, n1, n2, h1, cell_later hb h2, cell_later hb h3, cell_later hb h4, Obj.below d h5 hb, Obj.below d h6 hb, h7, h8⟩)
    · exact .inr (.inr ⟨p, v1, b, f1, n1, h1, cell_later hb h2, cell_later hb h3, h4.below hb, Obj.below d h5 hb⟩)

theorem Obj.up : ∀ (d : Nat) {w : World} {v : Value} {f : View} {n : Nat}, Obj d w v f n → Obj (d + 1) w v f n
  | 0, w, v, f, n, h => .inl h
  | d + 1, w, v, f, n, h => by
    rcases h with h | ⟨p, v1, v2, k, f1, f2, n1, n2, h1, h2, h3, h4, h5, h6, h7, h8⟩ | ⟨p, v1, b, f1, n1, h1, h2, h3, h4, h5⟩
    · exact .inl h
    · exact .inr (.inl ⟨p, v1, v2, k, f1, f2, n1, n2, h1, h2, h3, h4, Obj.up d h5, Obj.up d h6, h7, h8⟩)
    · exact .inr (.inr ⟨p, v1, b, f1, n1, h1, h2, h3, h4, Obj.up d h5⟩)

@[go_sem] theorem as_ext_ext (a : Addr) (w : World) : (Instr.typeAssert (.iface 83 (.pointer (some a))) 72 83 true).run Tryd.prog w = .ok (.tuple #[.pointer (some a), .bool true]) w := by kernel_rfl
@[go_sem] theorem as_ext_res (a : Addr) (w : World) : (Instr.typeAssert (.iface 79 (.pointer (some a))) 72 83 true).run Tryd.prog w = .ok (.tuple #[.pointer none, .bool false]) w := by kernel_rfl
@[go_sem] theorem as_ext_sim (a : Addr) (w : World) : (Instr.typeAssert (.iface 86 (.pointer (some a))) 72 83 true).run Tryd.prog w = .ok (.tuple #[.pointer none, .bool false]) w := by kernel_rfl
@[go_sem] theorem as_res_res (a : Addr) (w : World) : (Instr.typeAssert (.iface 79 (.pointer (some a))) 72 79 true).run Tryd.prog w = .ok (.tuple #[.pointer (some a), .bool true]) w := by kernel_rfl
@[go_sem] theorem as_res_sim (a : Addr) (w : World) : (Instr.typeAssert (.iface 86 (.pointer (some a))) 72 79 true).run Tryd.prog w = .ok (.tuple #[.pointer none, .bool false]) w := by kernel_rfl
@[go_sem] theorem as_sim_sim (a : Addr) (w : World) : (Instr.typeAssert (.iface 86 (.pointer (some a))) 72 86 true).run Tryd.prog w = .ok (.tuple #[.pointer (some a), .bool true]) w := by kernel_rfl
@[go_sem] theorem as_res_plain (a : Addr) (w : World) : (Instr.typeAssert (.iface 79 (.pointer (some a))) 72 79 false).run Tryd.prog w = .ok (.pointer (some a)) w := by kernel_rfl

@[go_sem] theorem make_hides (w : World) : (Instr.makeMap 60 none).run Tryd.prog w = .ok (.map (some w.heap.size)) (w.alloc (.map #[] 0)) := by kernel_rfl
theorem zeroH (w : World) : (zeroValue 45).run Tryd.prog w = .ok (.int .i64 0) w := by kernel_rfl

/-- A map laid upon another one, a step at a time. -/
theorem ext_inherit {f g : View} {x : Nm} {h : Int} (hg : g x = some 1) (hf : f x = some h) : ext f g x = some h := by
  unfold ext
  rw [hg]
  simp [hf]

theorem ext_new {f g : View} {x : Nm} (hg : g x = some 1) (hf : f x = none) : ext f g x = some 1 := by
  unfold ext
  rw [hg]
  simp [hf]

theorem ext_other {f g : View} {x : Nm} {c : Int} (hg : g x = some c) (hc : c ≠ 1) : ext f g x = some c := by
  unfold ext
  rw [hg]
  simp [hc]

theorem ext_nil_at {g : View} {x : Nm} {c : Int} (hg : g x = some c) : ext (fun _ => none) g x = some c := by
  rw [ext_none]; exact hg

set_option maxRecDepth 100000 in
set_option maxHeartbeats 1600000 in
theorem vis_sim (p b n : Nat) (f : View) (w : World) (hc : w.cell? ⟨p, 1, none⟩ = some (.map (some b))) (hm : SM w b n f) (hn : n ≤ 100000) :
    Calls Tryd.prog 25 #[.iface 86 (.pointer (some ⟨p, 0, none⟩))] w
    fun e w' => ∃ g, e = .returned (.map (some g)) ∧ HM 45 w' g n f ∧ w.heap.size ≤ g ∧ Below w.heap.size w w' := by
  obtain ⟨D, hown, hR⟩ := hm
  have hsz := hown.size_le
  have HR := Lib.hid hR
  have HO := Lib.hid (hown.alloc (.map #[] 0))
  have hbl := hown.lt
  clear hown hR
  have hc2 := fun o => cell_past o hc
  have e1 : (w.alloc (.map #[] 0)).heap.size = w.heap.size + 1 := by simp
  go_enter Tryd.func25, Tryd.ntmps25
  go_wp2_with (at_range; refine wpList_range_own _ rfl _ 90 rfl 9 98 lawS Tryd.underlying90 _ b n _ rfl HO.out ?_; intro w0 hrg0 hg0 hs0)
  go_frame
  rw [e1] at hrg0 hs0 ⊢
  go_loopw [14] (fun _ wr => ∃ (left : Lit → Bool) (cnt n' : Nat), wr.ranges Tryd.prog 9 fv b (w.heap.size + 1) n D left cnt ∧ n' + cnt ≤ n ∧ HM 45 wr w.heap.size n' (mix (fun _ => none) f left) ∧ Below w.heap.size w wr) (fun _ wr => wr.rangeLeft b (w.heap.size + 1))
  case atStart =>
    refine ⟨_, _, 0, hrg0, by omega, ?_, ((Below.refl _ _).alloc (Nat.le_refl _) _).grown hg0 (by simp) (fun j hj => by cases hj)⟩
    rw [mix_start HR.out]
    exact (hm_made _ w).kept hg0 (by simp)
  case round =>
    obtain ⟨left, cnt, n', hrg, hnc, hout, hbel⟩ := hrel
    have HRg := Lib.hid hrg
    have HOut := Lib.hid hout
    have hsz2 := hbel.size
    clear hrg hout hrg0 HO
    go_wp2_with (first
      | (at_next; refine next_sf _ rfl _ rfl b (w.heap.size + 1) n D _ _ rfl HRg.out ?_ ?_)
      | go_in)
    · intro hc0 hl0
      go_wp2
      go_ret
      have := HOut.out
      rw [mix_end hl0, ext_none] at this
      exact ⟨_, rfl, this.mono (by omega), Nat.le_refl _, hbel⟩
    · intro x c w1 cnt1 hxs hwc hlx hat hrg1 hlt hg1 hs1 hen
      have hgx := reads_at HR.out hat
      have HR1 := Lib.hid hrg1
      obtain ⟨Dg, ho, hr⟩ := HOut.out
      have hoA := (ho.kept hg1 (by simp)).alloc (.cells #[.nilIface, .int .i64 c] 98)
      have HA := Lib.hid hoA
      have HRd := Lib.hid hr
      have hex := ext_nil_at hgx
      have hrgA : (w1.alloc (.cells #[.nilIface, .int .i64 c] 98)).ranges Tryd.prog 9 fv b (w.heap.size + 1) n D (fun z => left z && !z.sameKey (.string x.data.toList)) cnt1 := hrg1.alloc _
      have HRA := Lib.hid hrgA
      have hb1 : Below w.heap.size w (w1.alloc (.cells #[.nilIface, .int .i64 c] 98)) := (hbel.grown hg1 hsz2 (fun j hj => by cases hj; omega)).alloc (by omega) _
      clear ho hr hoA hrg1 hrgA hat hlx hgx HOut
      go_wp2_with (first
        | (at_mapUpdate; refine wpList_mapUpdate_own _ rfl _ _ _ 60 rfl 9 45 lawS Tryd.underlying60 _ w.heap.size n' _ rfl HA.out (by unfold maxLen; omega) _ _ _ rfl rfl (keyOf_string_mk Tryd.underlying9 hxs) _ [] (plainElem_int Tryd.underlying45 hwc) ?_; intro w2 hout2 hg2; go_frame)
        | go_in)
      have hrg2 := HRA.out.kept hg2 (fun e => by have := Option.some.inj e; omega) (fun e => by have := Option.some.inj e; omega)
      go_roundw
      case rel =>
        refine ⟨_, cnt1, n' + 1, hrg2, by omega, ⟨_, hout2, ?_⟩, hb1.grown hg2 (by simp; omega) (fun j hj => by cases hj; omega)⟩
        rw [mix_step, hex]
        exact HRd.out.put HA.out.isMap _ _
      case measure => rw [hrg2.left_eq, HRg.out.left_eq]; exact hlt

set_option maxRecDepth 100000 in
set_option maxHeartbeats 1600000 in
theorem vis_res (p b n : Nat) (f : View) (w : World) (hc : w.cell? ⟨p, 1, none⟩ = some (.map (some b))) (hm : HM 45 w b n f) (hn : n ≤ 100000) :
    Calls Tryd.prog 25 #[.iface 79 (.pointer (some ⟨p, 0, none⟩))] w
    fun e w' => ∃ g, e = .returned (.map (some g)) ∧ HM 45 w' g n f ∧ w.heap.size ≤ g ∧ Below w.heap.size w w' := by
  obtain ⟨D, hown, hR⟩ := hm
  have hsz := hown.size_le
  have HR := Lib.hid hR
  have HO := Lib.hid (hown.alloc (.map #[] 0))
  have hbl := hown.lt
  clear hown hR
  have hc2 := fun o => cell_past o hc
  have e1 : (w.alloc (.map #[] 0)).heap.size = w.heap.size + 1 := by simp
  go_enter Tryd.func25, Tryd.ntmps25
  go_wp2_with (at_range; refine wpList_range_own _ rfl _ 60 rfl 9 45 lawS Tryd.underlying60 _ b n _ rfl HO.out ?_; intro w0 hrg0 hg0 hs0)
  go_frame
  rw [e1] at hrg0 hs0 ⊢
  go_loopw [11] (fun _ wr => ∃ (left : Lit → Bool) (cnt n' : Nat), wr.ranges Tryd.prog 9 (plainElem (H := Unit) Tryd.prog 45) b (w.heap.size + 1) n D left cnt ∧ n' + cnt ≤ n ∧ HM 45 wr w.heap.size n' (mix (fun _ => none) f left) ∧ Below w.heap.size w wr) (fun _ wr => wr.rangeLeft b (w.heap.size + 1))
  case atStart =>
    refine ⟨_, _, 0, hrg0, by omega, ?_, ((Below.refl _ _).alloc (Nat.le_refl _) _).grown hg0 (by simp) (fun j hj => by cases hj)⟩
    rw [mix_start HR.out]
    exact (hm_made _ w).kept hg0 (by simp)
  case round =>
    obtain ⟨left, cnt, n', hrg, hnc, hout, hbel⟩ := hrel
    have HRg := Lib.hid hrg
    have HOut := Lib.hid hout
    have hsz2 := hbel.size
    clear hrg hout hrg0 HO
    go_wp2_with (first
      | (at_next; refine next_si _ 45 Tryd.underlying45 rfl _ rfl b (w.heap.size + 1) n D _ _ rfl HRg.out ?_ ?_)
      | go_in)
    · intro hc0 hl0
      go_wp2
      go_ret
      have := HOut.out
      rw [mix_end hl0, ext_none] at this
      exact ⟨_, rfl, this.mono (by omega), Nat.le_refl _, hbel⟩
    · intro x c w1 cnt1 hxs hwc hlx hat hrg1 hlt hg1 hs1 hen
      have hgx := reads_at HR.out hat
      obtain ⟨Dg, ho, hr⟩ := HOut.out
      have HA := Lib.hid (ho.kept hg1 (by simp))
      have HRd := Lib.hid hr
      have hex := ext_nil_at hgx
      have HRA := Lib.hid hrg1
      have hb1 : Below w.heap.size w w1 := hbel.grown hg1 hsz2 (fun j hj => by cases hj; omega)
      clear ho hr hrg1 hat hlx hgx HOut
      go_wp2_with (first
        | (at_mapUpdate; refine wpList_mapUpdate_own _ rfl _ _ _ 60 rfl 9 45 lawS Tryd.underlying60 _ w.heap.size n' _ rfl HA.out (by unfold maxLen; omega) _ _ _ rfl rfl (keyOf_string_mk Tryd.underlying9 hxs) _ [] (plainElem_int Tryd.underlying45 hwc) ?_; intro w2 hout2 hg2; go_frame)
        | go_in)
      have hrg2 := HRA.out.kept hg2 (fun e => by have := Option.some.inj e; omega) (fun e => by have := Option.some.inj e; omega)
      go_roundw
      case rel =>
        refine ⟨_, cnt1, n' + 1, hrg2, by omega, ⟨_, hout2, ?_⟩, hb1.grown hg2 hb1.size (fun j hj => by cases hj; omega)⟩
        rw [mix_step, hex]
        exact HRd.out.put HA.out.isMap _ _
      case measure => rw [hrg2.left_eq, HRg.out.left_eq]; exact hlt

/-- What the package's function leaves. -/
def VisPost (w : World) (n : Nat) (f : View) (e : Ending) (w' : World) : Prop := ∃ g, e = .returned (.map (some g)) ∧ HM 45 w' g n f ∧ w.heap.size ≤ g ∧ Below w.heap.size w w'

set_option maxRecDepth 100000 in
set_option maxHeartbeats 1600000 in
theorem vis_ext (p n1 n2 : Nat) (v1 v2 : Value) (f1 f2 : View) (w : World) (c0 : w.cell? ⟨p, 0, none⟩ = some v1) (c1 : w.cell? ⟨p, 1, none⟩ = some v2) (hn : n1 + n2 ≤ 100000)
    (hL : ∀ w', Below w.heap.size w w' → Calls Tryd.prog 25 #[v1] w' (VisPost w' n1 f1))
    (hR : ∀ w', Below w.heap.size w w' → Calls Tryd.prog 25 #[v2] w' (VisPost w' n2 f2)) :
    Calls Tryd.prog 25 #[.iface 83 (.pointer (some ⟨p, 0, none⟩))] w (VisPost w (n1 + n2) (ext f1 f2)) := by
  have HL := Lib.hid hL
  have HR0 := Lib.hid hR
  clear hL hR
  have k0 := fun o => cell_past o c0
  have hb0 : Below w.heap.size w (w.alloc (.map #[] 0)) := by go_grown
  go_enter Tryd.func25, Tryd.ntmps25
  go_wp2_with fail
  refine (HL.out _ hb0).mono ?_
  rintro e w1 ⟨g1, rfl, hm1, hg1, hb1⟩
  have hB1 := below_step (Nat.le_refl _) hb0 hb1
  have hs1 := hb1.size
  simp at hs1 hg1
  have k1 := cell_later hB1 c1
  have HM1 := Lib.hid hm1
  have hlt1 := hm1.lt
  clear hm1 hb1
  go_wp2_with fail
  refine (HR0.out _ hB1).mono ?_
  rintro e w2 ⟨g2, rfl, hm2, hg2, hb2⟩
  have hB2 := below_step (Nat.le_refl _) hB1 hb2
  have hs2 := hb2.size
  have HM2 := Lib.hid (HM1.out.below hb2)
  obtain ⟨D, hown, hR⟩ := hm2
  have hsz := hown.size_le
  have HR := Lib.hid hR
  have HO := Lib.hid hown
  have hbl := hown.lt
  clear hown hR HM1 hb2 k0 k1
  go_wp2_with (at_range; refine wpList_range_own _ rfl _ 60 rfl 9 45 lawS Tryd.underlying60 _ g2 n2 _ rfl HO.out ?_; intro w0 hrg0 hg0 hs0)
  go_frame
  go_loopw [6] (fun _ wr => ∃ (left : Lit → Bool) (cnt n' : Nat), wr.ranges Tryd.prog 9 (plainElem (H := Unit) Tryd.prog 45) g2 w2.heap.size n2 D left cnt ∧ n' + cnt ≤ n1 + n2 ∧ HM 45 wr g1 n' (mix f1 f2 left) ∧ Below w.heap.size w wr) (fun _ wr => wr.rangeLeft g2 w2.heap.size)
  case atStart =>
    refine ⟨_, _, n1, hrg0, by omega, ?_, hB2.grown hg0 hB2.size (fun j hj => by cases hj)⟩
    rw [mix_start HR.out]
    exact HM2.out.kept hg0 (by simp)
  case round =>
    obtain ⟨left, cnt, n', hrg, hnc, hout, hbel⟩ := hrel
    have HRg := Lib.hid hrg
    have HOut := Lib.hid hout
    have hsz2 := hbel.size
    clear hrg hout hrg0 HO HM2
    go_wp2_with (first
      | (at_next; refine next_si _ 45 Tryd.underlying45 rfl _ rfl g2 w2.heap.size n2 D _ _ rfl HRg.out ?_ ?_)
      | go_in)
    · intro hc0 hl0
      go_wp2
      go_ret
      have := HOut.out
      rw [mix_end hl0] at this
      exact ⟨_, rfl, this.mono (by omega), by omega, hbel⟩
    · intro x c w1' cnt1 hxs hwc hlx hat hrg1 hlt hgr hs1' hen
      have hgx := reads_at HR.out hat
      obtain ⟨Dg, ho, hr⟩ := HOut.out
      have HA := Lib.hid (ho.kept hgr (fun e => by have := Option.some.inj e; omega))
      have HRd := Lib.hid hr
      have HRA := Lib.hid hrg1
      have hmx : mix f1 f2 left x.data.toList = f1 x.data.toList := mix_at hlx
      have hb1 : Below w.heap.size w w1' := hbel.grown hgr hsz2 (fun j hj => by cases hj; omega)
      have hkey : keyOf Tryd.prog 9 (.string x) = some (.string x.data.toList) := keyOf_string_mk Tryd.underlying9 hxs
      clear ho hr hrg1 hat hlx HOut
      by_cases hc1 : c = 1
      · subst hc1
        have hh := (HRd.out x.data.toList).1
        rw [hmx] at hh
        cases hf1 : f1 x.data.toList with
        | some q =>
          have hex := ext_inherit hgx hf1
          rw [hf1] at hh
          go_wp2_with (first
            | (at_lookup; refine wpList_lookup_own_ok _ rfl (.tmp 41) (.tmp 42) 60 rfl 9 45 lawS Tryd.underlying60 _ (zeroH _) (.lit (.int .i64 0)) [] (plainElem_int Tryd.underlying45 rfl) g1 n' _ rfl HA.out _ _ rfl hkey ?_; intro v0 ps0 hv0; rw [hh]; clear hv0)
            | go_in)
          go_roundw
          case rel =>
            refine ⟨_, cnt1, n', HRA.out, by omega, ⟨_, HA.out, ?_⟩, hb1⟩
            rw [mix_step, hex]
            have e : (fun y => if y = x.data.toList then some q else mix f1 f2 left y) = mix f1 f2 left := by
              funext y
              by_cases h : y = x.data.toList
              · subst h; rw [if_pos rfl, hmx, hf1]
              · rw [if_neg h]
            rw [e]
            exact HRd.out
          case measure => rw [HRA.out.left_eq, HRg.out.left_eq]; exact hlt
        | none =>
          have hex := ext_new hgx hf1
          rw [hf1] at hh
          go_wp2_with (first
            | (at_lookup; refine wpList_lookup_own_ok _ rfl (.tmp 41) (.tmp 42) 60 rfl 9 45 lawS Tryd.underlying60 _ (zeroH _) (.lit (.int .i64 0)) [] (plainElem_int Tryd.underlying45 rfl) g1 n' _ rfl HA.out _ _ rfl hkey ?_; intro v0 ps0 hv0; rw [hh]; clear hv0)
            | (at_mapUpdate; refine wpList_mapUpdate_own _ rfl _ _ _ 60 rfl 9 45 lawS Tryd.underlying60 _ g1 n' _ rfl HA.out (by unfold maxLen; omega) _ _ _ rfl rfl hkey _ [] (plainElem_int Tryd.underlying45 hwc) ?_; intro w3 hout2 hg2'; go_frame)
            | go_in)
          have hrg2 := HRA.out.kept hg2' (fun e => by have := Option.some.inj e; omega) (fun e => by have := Option.some.inj e; omega)
          go_roundw
          case rel =>
            refine ⟨_, cnt1, n' + 1, hrg2, by omega, ⟨_, hout2, ?_⟩, hb1.grown hg2' hb1.size (fun j hj => by cases hj; omega)⟩
            rw [mix_step, hex]
            exact HRd.out.put HA.out.isMap _ _
          case measure => rw [hrg2.left_eq, HRg.out.left_eq]; exact hlt
      · have hex := ext_other (f := f1) hgx hc1
        have hcb : (c == 1) = false := by simp [hc1]
        go_wp2_with (first
          | (at_mapUpdate; refine wpList_mapUpdate_own _ rfl _ _ _ 60 rfl 9 45 lawS Tryd.underlying60 _ g1 n' _ rfl HA.out (by unfold maxLen; omega) _ _ _ rfl rfl hkey _ [] (plainElem_int Tryd.underlying45 hwc) ?_; intro w3 hout2 hg2'; go_frame)
          | go_in)
        have hrg2 := HRA.out.kept hg2' (fun e => by have := Option.some.inj e; omega) (fun e => by have := Option.some.inj e; omega)
        go_roundw
        case rel =>
          refine ⟨_, cnt1, n' + 1, hrg2, by omega, ⟨_, hout2, ?_⟩, hb1.grown hg2' hb1.size (fun j hj => by cases hj; omega)⟩
          rw [mix_step, hex]
          exact HRd.out.put HA.out.isMap _ _
        case measure => rw [hrg2.left_eq, HRg.out.left_eq]; exact hlt

/-- Whatever object it is. -/
theorem vis_any : ∀ (d : Nat) (w : World) (v : Value) (f : View) (n : Nat), Obj d w v f n → n ≤ 100000 → Calls Tryd.prog 25 #[v] w (VisPost w n f)
  | 0, w, v, f, n, h, hn => by
    obtain ⟨p, b, rfl, h2, h3⟩ := h
    exact vis_sim p b n f w h2 h3 hn
  | d + 1, w, v, f, n, h, hn => by
    rcases h with ⟨p, b, rfl, h2, h3⟩ | ⟨p, v1, v2, k, f1, f2, n1, n2, rfl, h2, h3, h4, h5, h6, rfl, h8⟩ | ⟨p, v1, b, f1, n1, rfl, h2, h3, h4, h5⟩
    · exact vis_sim p b n f w h2 h3 hn
    · refine (vis_ext p n1 n2 v1 v2 f1 f2 w h2 h3 (by omega) (fun w' hb => vis_any d w' v1 f1 n1 (h5.below d hb) (by omega)) (fun w' hb => vis_any d w' v2 f2 n2 (h6.below d hb) (by omega))).mono ?_
      rintro e w' ⟨g, rfl, hm, hg, hb⟩
      exact ⟨g, rfl, hm.mono h8, hg, hb⟩
    · exact vis_res p b n f w h3 h4 hn
end Go.Proofs.YtbdadgkjiondgaaDoor.see
