/-
  FnSeen, FnStepsRemoved: making the package's objects.
-/
import Derived.Test.YtbdadgkjiondgaaDoorSeeObj
import Derived.Deep.QuietTactic
namespace Go.Proofs.YtbdadgkjiondgaaDoor.see
open Go.RowKit Go.Maps Go.WideMaps
set_option linter.unusedSimpArgs false
set_option linter.unusedVariables false

/-- A list of ints that lies in memory. -/
def IntsIn (w : World) (c : Option Addr) (len cap : Nat) (H : Nat → Int) : Prop :=
  (c = none ∧ len = 0 ∧ cap = 0) ∨ ∃ a, c = some a ∧ len ≤ cap ∧ cap ≤ maxLen ∧ ∀ i, i < len → a.block < w.heap.size ∧ w.cell? (a.add i) = some (.int .i64 (H i))

theorem IntsIn.below {w w' : World} {c : Option Addr} {len cap : Nat} {H : Nat → Int} (h : IntsIn w c len cap H) (hb : Below w.heap.size w w') : IntsIn w' c len cap H := by
  rcases h with h | ⟨a, rfl, h1, h2, h3⟩
  · exact .inl h
  · refine .inr ⟨a, rfl, h1, h2, fun i hi => ?_⟩
    obtain ⟨hs, hc⟩ := h3 i hi
    have := hb.size
    exact ⟨by omega, cell_later hb hc⟩

theorem IntsIn.at {w : World} {c : Option Addr} {len cap : Nat} {H : Nat → Int} (h : IntsIn w c len cap H) {i : Nat} (hi : i < len) : ∃ a, c = some a ∧ w.cell? (a.add i) = some (.int .i64 (H i)) := by
  rcases h with ⟨-, h0, -⟩ | ⟨a, rfl, h1, h2, h3⟩
  · omega
  · exact ⟨a, rfl, (h3 i hi).2⟩

theorem strs_at {w : World} {c : Option Addr} {len cap : Nat} {S : Nat → ByteArray} (h : StrsIn w c len cap S) {i : Nat} (hi : i < len) : ∃ a, c = some a ∧ w.cell? (a.add i) = some (.string (S i)) := by
  rcases h with ⟨-, h0, -⟩ | ⟨a, rfl, h1, h2, h3⟩
  · omega
  · exact ⟨a, rfl, (h3 i hi).2⟩

theorem conv_wf {h : Int} (hc : Code h) : (Lit.int .i64 (conv h)).wf = true := by
  rcases hc with rfl | rfl | rfl <;> rfl

@[go_sem] theorem make_fields (w : World) : (Instr.makeMap 90 none).run Tryd.prog w = .ok (.map (some w.heap.size)) (w.alloc (.map #[] 0)) := by kernel_rfl
@[go_sem] theorem make_cache (w : World) : (Instr.makeMap 70 none).run Tryd.prog w = .ok (.map (some w.heap.size)) (w.alloc (.map #[] 0)) := by kernel_rfl
@[go_sem] theorem make_ints (w : World) : (Instr.makeMap 41 none).run Tryd.prog w = .ok (.map (some w.heap.size)) (w.alloc (.map #[] 0)) := by kernel_rfl

set_option maxRecDepth 100000 in
theorem flat_any (b : Nat) (w : World) : Calls Tryd.prog 31 #[.map none, .map (some b), .slice none 0 0, .slice none 0 0] w
    fun e w' => e = .returned (.pointer (some ⟨w.heap.size + 2, 0, none⟩)) ∧ w'.cell? ⟨w.heap.size + 2, 2, none⟩ = some (.iface 86 (.pointer (some ⟨w.heap.size + 1, 0, none⟩))) ∧ w'.cell? ⟨w.heap.size + 1, 1, none⟩ = some (.map (some b)) ∧ Below w.heap.size w w' := by
  go_enter Tryd.func31, Tryd.ntmps31
  go_wp2
  go_ret
  exact ⟨rfl, cell_at (by simp) rfl, cell_past _ (cell_at (by simp) rfl), by go_grown⟩

set_option maxRecDepth 100000 in
set_option maxHeartbeats 800000 in
theorem simple_any (s : Sp) (rem : ByteArray) (cn : Option Addr) (capn : Nat) (S : Nat → ByteArray) (ch : Option Addr) (caph : Nat) (H : Nat → Int) (is : Bool) (w : World) (hS : StrsIn w cn s.n capn S) (hH : IntsIn w ch s.n caph H)
    (hn : s.n ≤ 12) (hsz : ∀ i, i < s.n → (S i).size ≤ 2147483647) (hnm : ∀ i, i < s.n → s.nm i = (S i).data.toList) (hhd : ∀ i, i < s.n → Code (s.hd i) ∧ H i = conv (s.hd i)) :
    Calls Tryd.prog 26 #[.agg #[.string rem, .slice cn s.n capn, .slice ch s.n caph, .bool is]] w
    fun e w' => ∃ p q b, e = .returned (.pointer (some ⟨p, 0, none⟩)) ∧ w'.cell? ⟨p, 2, none⟩ = some (.iface 86 (.pointer (some ⟨q, 0, none⟩))) ∧ w'.cell? ⟨q, 1, none⟩ = some (.map (some b)) ∧ SM w' b s.n (simV s s.n) ∧ Below w.heap.size w w' := by
  have HS := Lib.hid hS
  have HH := Lib.hid hH
  have HZ := Lib.hid hsz
  have HNM := Lib.hid hnm
  have HHD := Lib.hid hhd
  clear hS hH hsz hnm hhd
  have hb0 : Below w.heap.size w (w.alloc (.cells #[.string rem, .slice cn s.n capn, .slice ch s.n caph, .bool is] 56)) := by go_grown
  go_enter Tryd.func26, Tryd.ntmps26
  go_wp2_with fail
  go_loopw [10] (fun i wr => ∃ k : Nat, k ≤ s.n ∧ i = .int .i64 k ∧ SM wr (w.heap.size + 1) k (simV s k) ∧ Below (w.heap.size + 1) (w.alloc (.cells #[.string rem, .slice cn s.n capn, .slice ch s.n caph, .bool is] 56)) wr) (fun i _ => s.n - (intOf i).toNat)
  case atStart =>
    refine ⟨0, Nat.zero_le _, rfl, ?_, by go_grown⟩
    have := sm_made (w.alloc (.cells #[.string rem, .slice cn s.n capn, .slice ch s.n caph, .bool is] 56))
    rw [show (w.alloc (.cells #[.string rem, .slice cn s.n capn, .slice ch s.n caph, .bool is] 56)).heap.size = w.heap.size + 1 by simp] at this
    exact this
  case round =>
    obtain ⟨k, hk, rfl, hmap, hbel⟩ := hrel
    have hsz : w.heap.size + 1 ≤ wr.heap.size := by have := hbel.size; simpa using this
    have hbw : Below w.heap.size w wr := (Below.alloc (Below.refl _ _) (Nat.le_refl _) _).trans (hbel.mono (by omega))
    have hv : wr.cell? ⟨w.heap.size, 2, none⟩ = some (.slice ch s.n caph) := (hbel.cell (Nat.lt_succ_self _)).trans (by simp)
    obtain ⟨D, hown, hr⟩ := hmap
    have HO := Lib.hid hown
    have HRd := Lib.hid hr
    clear hown hr
    by_cases hlt : k < s.n
    · obtain ⟨a, rfl, hc⟩ := strs_at HS.out hlt
      obtain ⟨a2, rfl, hc2⟩ := HH.out.at hlt
      have d1 := cell_later hbw hc
      have d2 := cell_later hbw hc2
      have hkey : keyOf Tryd.prog 9 (.string (S k)) = some (.string (S k).data.toList) := keyOf_string_mk Tryd.underlying9 (by have := HZ.out k hlt; unfold maxLen; omega)
      obtain ⟨hcd, hh⟩ := HHD.out k hlt
      have hwf := conv_wf hcd
      have hnk := HNM.out k hlt
      rw [hh] at d2
      have hstep : simV s (k + 1) = fun y => if y = (S k).data.toList then some (conv (s.hd k)) else simV s k y := by
        funext y
        show (if y = s.nm k then _ else _) = _
        rw [hnk]
      have HSt := Lib.hid hstep
      clear hc hc2 hh hstep hcd
      generalize conv (s.hd k) = cv at *
      go_wp2_with (at_mapUpdate; refine wpList_mapUpdate_own _ rfl _ _ _ 90 rfl 9 98 lawS Tryd.underlying90 _ (w.heap.size + 1) k _ rfl HO.out (by unfold maxLen; omega) _ _ _ rfl rfl hkey _ [] (fv_mk hwf) ?_; intro w1 hown1 hg1)
      go_roundw
      case rel =>
        refine ⟨k + 1, by omega, by go_num, ⟨_, hown1, ?_⟩, Below.grown hbel hg1 hsz (fun b hb => by cases hb; omega)⟩
        rw [HSt.out]
        exact HRd.out.put HO.out.isMap _ _
      case measure => first | (simp [intOf]; done) | (simp [intOf]; omega)
    · obtain rfl : k = s.n := by omega
      go_wp2_with fail
      refine (flat_any _ _).mono ?_
      rintro e w1 ⟨rfl, hp, hq, hb1⟩
      go_wp2
      go_ret
      exact ⟨_, _, _, rfl, hp, hq, SM.below ⟨D, HO.out, HRd.out⟩ hb1, below_step (Nat.le_refl _) hbw hb1⟩

/-- A pointer to an object. -/
def ObjP (d : Nat) (w : World) (p : Nat) (f : View) (n : Nat) : Prop := ∃ v, w.cell? ⟨p, 2, none⟩ = some v ∧ Obj d w v f n

theorem ObjP.below {d : Nat} {w w' : World} {p : Nat} {f : View} {n : Nat} (h : ObjP d w p f n) (hb : Below w.heap.size w w') : ObjP d w' p f n := by
  obtain ⟨v, h1, h2⟩ := h
  exact ⟨v, cell_later hb h1, h2.below d hb⟩

theorem ofv_any (d p n : Nat) (f : View) (w : World) (h : ObjP d w p f n) (hn : n ≤ 100000) : Calls Tryd.prog 22 #[.pointer (some ⟨p, 0, none⟩)] w (VisPost w n f) := by
  obtain ⟨v, h1, h2⟩ := h
  have H2 := Lib.hid h2
  clear h2
  go_enter Tryd.func22, Tryd.ntmps22
  go_wp2_with fail
  refine (vis_any d _ v f n H2.out hn).mono ?_
  rintro e w1 ⟨g, rfl, hm, hg, hb⟩
  go_wp2
  go_ret
  exact ⟨g, rfl, hm, hg, hb⟩

theorem size_sim (a : Addr) (w : World) : Calls Tryd.prog 68 #[.pointer (some a)] w fun e w' => e = .returned (.int .i64 1) ∧ w = w' := by
  go_enter Tryd.func68, Tryd.ntmps68
  go_wp2
  go_ret
  exact ⟨rfl, rfl⟩

theorem size_ext (p : Nat) (k : Int) (w : World) (h : w.cell? ⟨p, 2, none⟩ = some (.int .i64 k)) : Calls Tryd.prog 67 #[.pointer (some ⟨p, 0, none⟩)] w fun e w' => e = .returned (.int .i64 k) ∧ w = w' := by
  go_enter Tryd.func67, Tryd.ntmps67
  go_wp2
  go_ret
  exact ⟨rfl, rfl⟩

/-- How deep a restricted object is: some number. -/
theorem size_res : ∀ (d : Nat) (w : World) (p : Nat) (v1 : Value) (f1 : View) (n1 : Nat), w.cell? ⟨p, 0, none⟩ = some v1 → Obj d w v1 f1 n1 →
    Calls Tryd.prog 66 #[.pointer (some ⟨p, 0, none⟩)] w fun e w' => ∃ k, e = .returned (.int .i64 k) ∧ w = w' := by
  intro d
  induction d with
  | zero =>
    intro w p v1 f1 n1 h1 h2
    obtain ⟨q, b, rfl, -, -⟩ := h2
    go_enter Tryd.func66, Tryd.ntmps66
    go_wp2_with fail
    refine (size_sim _ _).mono ?_
    rintro e w' ⟨rfl, rfl⟩
    go_wp2
    go_ret
    exact ⟨_, rfl, rfl⟩
  | succ d ih =>
    intro w p v1 f1 n1 h1 h2
    rcases h2 with ⟨q, b, rfl, -, -⟩ | ⟨q, v1', v2', k, -, -, -, -, rfl, -, -, hk, -⟩ | ⟨q, v2, b, f2, n2, rfl, hq, -, -, ho⟩
    · go_enter Tryd.func66, Tryd.ntmps66
      go_wp2_with fail
      refine (size_sim _ _).mono ?_
      rintro e w' ⟨rfl, rfl⟩
      go_wp2
      go_ret
      exact ⟨_, rfl, rfl⟩
    · go_enter Tryd.func66, Tryd.ntmps66
      go_wp2_with fail
      refine (size_ext q k _ hk).mono ?_
      rintro e w' ⟨rfl, rfl⟩
      go_wp2
      go_ret
      exact ⟨_, rfl, rfl⟩
    · have hc := ih w q v2 f2 n2 hq ho
      clear ih ho
      have HC := Lib.hid hc
      clear hc
      go_enter Tryd.func66, Tryd.ntmps66
      go_wp2_with fail
      refine HC.out.mono ?_
      rintro e w' ⟨k, rfl, rfl⟩
      go_wp2
      go_ret
      exact ⟨_, rfl, rfl⟩
end Go.Proofs.YtbdadgkjiondgaaDoor.see
