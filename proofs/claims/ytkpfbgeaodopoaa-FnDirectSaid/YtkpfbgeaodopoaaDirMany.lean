/-
  FnDirect: the builder's many.
-/
import Derived.Test.YtkpfbgeaodopoaaDirSt
namespace Go.Proofs.Ytkpfbgeaodopoaa.fnDirect
open Go.RowKit
set_option linter.unusedSimpArgs false
set_option linter.unusedVariables false

/-- The place ahead of the j-th one. -/
def Ahead (l : List Nat) (lo hi j m : Nat) : Prop := (∀ k, l[j]? = some k → m = k) ∧ (j = l.length → m = hi) ∧ lo ≤ m

theorem Ahead.zero {s : Nat → Nat} {l : List Nat} {lo hi : Nat} (h : Kin s lo hi l) : Ahead l lo hi 0 lo := by
  cases h with
  | nil => exact ⟨fun k hk => by simp at hk, fun _ => rfl, Nat.le_refl _⟩
  | cons _ _ l h1 h2 h3 => exact ⟨fun k hk => by simpa using hk, fun h => by simp at h, Nat.le_refl _⟩

theorem Ahead.succ {s : Nat → Nat} {l : List Nat} {lo hi j k : Nat} (h : Kin s lo hi l) (hk : l[j]? = some k) : Ahead l lo hi (j + 1) (k + s k) := by
  obtain ⟨h1, h2, h3, h4⟩ := h.at hk
  have := h1.le
  refine ⟨fun k' hk' => ?_, fun he => ?_, by omega⟩
  · have h5 : (l.drop (j + 1))[0]? = some k' := by rw [List.getElem?_drop]; exact hk'
    obtain ⟨l', hl⟩ : ∃ l', l.drop (j + 1) = k' :: l' := by
      cases hd : l.drop (j + 1) with
      | nil => rw [hd] at h5; simp at h5
      | cons a b => rw [hd] at h5; simp at h5; subst h5; exact ⟨b, rfl⟩
    rw [hl] at h3
    exact h3.cons_inv.1.symm
  · rw [List.drop_eq_nil_of_le (by omega)] at h3
    exact h3.nil_inv

/-- What a list of places gives: each lies within, its size fits. -/
theorem Kin.get {s : Nat → Nat} {l : List Nat} {lo hi j k : Nat} (h : Kin s lo hi l) (hk : l[j]? = some k) : lo ≤ k ∧ 1 ≤ s k ∧ k + s k ≤ hi := h.mem (List.mem_of_getElem? hk)

theorem infoCse : (Try.prog.info? 206).map (fun i => (i.zero, i.size, i.bytes)) = some (some (.agg #[.nilIface, .slice none 0 0]), 2, 40) := by kernel_rfl

set_option maxRecDepth 100000 in
set_option maxHeartbeats 1600000 in
theorem many_any (c : Ctx) (N : Nat) (ih : NodeTo c N) (hn : c.n ≤ 400) (l : List Nat) (lo hi : Nat) (lv : Value) (w : World) (P : Nat → Value) (hK : Kin (sz c.E) lo hi l) (hhi : hi ≤ c.n) (hex : ∀ k ∈ l, ex (c.E k)) (hs : ∀ k ∈ l, sz c.E k ≤ N) (hb : Bld c w P) (hl : IntsIn c w lv l) :
    Calls Try.prog 51 #[.pointer (some ⟨c.bb, 0, none⟩), lv] w fun e w' => ∃ ao n cap P', e = .returned (.slice ao n cap) ∧ St c w P lo hi w' P' := by
  obtain ⟨ao, cap, rfl⟩ := hl.form
  have HB := Lib.hid hb
  have HL := Lib.hid hl
  have HK := Lib.hid hK
  have HX := Lib.hid hex
  have HS := Lib.hid hs
  have IH := Lib.hid ih
  have hlen := hK.len
  have hpb := hb.ltp
  clear hb hl hK hex hs ih
  go_enter Try.func51, Try.ntmps51
  go_wp2_with fail
  go_loopw [5, 10] (fun v i wr => ∃ (j m : Nat) (P1 : Nat → Value) (xs : List Value), i = .int .i64 j ∧ j ≤ l.length ∧ Ahead l lo hi j m ∧ St c w P lo m wr P1 ∧ wr.ownsRow w.heap.size 206 2 v j xs) (fun _ i _ => l.length - (intOf i).toNat)
  case atStart => exact ⟨0, lo, P, [], rfl, Nat.zero_le _, Ahead.zero HK.out, St.refl HB.out lo, World.ownsRow_nil _ _ _ _⟩
  case round =>
    obtain ⟨j, m, P1, xs, rfl, hj, hA, hSt, hrow⟩ := hrel
    have HA := Lib.hid hA
    have HT := Lib.hid hSt
    have HR := Lib.hid hrow
    have hsr := hSt.grown.size
    clear hA hSt hrow
    by_cases hlt : j < l.length
    · obtain ⟨k, hk⟩ : ∃ k, l[j]? = some k := ⟨_, List.getElem?_eq_getElem hlt⟩
      obtain rfl := HA.out.1 k hk
      have hkm := List.mem_of_getElem? hk
      obtain ⟨k1, k2, k3⟩ := HK.out.get hk
      have HLr := Lib.hid (HL.out.st HT.out)
      obtain ⟨g, o, rfl, hg, hc⟩ := HLr.out.get hk
      have HC := Lib.hid (HT.out.node IH.out HB.out k1 (by omega) (HX.out m hkm) (HS.out m hkm) k2)
      obtain ⟨ao2, cp2, rfl⟩ := owns_slice HR.out
      have HKk := Lib.hid hk
      clear hk
      go_wp2_with (first | (go_at_call 31; refine HC.out.mono ?_; rintro e w1 ⟨P2, T, x, rfl, -, -, -, h1, h2⟩; have HR1 := Lib.hid (h2.row HR.out hpb); have hs2 := h2.grown.size; have H1 := Lib.hid (And.intro h1 h2); clear h1 h2) | (at_builtin; refine wpList_append_run rfl (.tmp 14) (.tmp 19) 46 rfl (appS (wr := w1) (B := w.heap.size) 46 46 206 Try.underlying46 infoCse rfl (by decide) HR1.out (by omega) (grown_of_below (by go_grown)) (by omega) (by omega) [.iface T (.pointer (some ⟨x, 0, none⟩)), .slice none 0 0] rfl (by intro u hu; simp at hu; rcases hu with rfl | rfl <;> rfl) _ _ (cells_new (by simp))) ?_; rintro v1 w2 ⟨hown2, hg2, hbb⟩; have HO2 := Lib.hid hown2; have HG2 := Lib.hid hg2; clear hown2 hg2 hbb))
      go_roundw
      case rel => exact ⟨j + 1, m + sz c.E m, P2, _, by go_num, by omega, Ahead.succ HK.out HKk.out, (H1.out.1.below (by go_grown)).append HB.out (HB.out.lta (i := m) (by omega)) (own_below HR1.out (by go_grown)) HG2.out (by decide), HO2.out⟩
      case measure => first | (simp [intOf]; done) | (simp [intOf]; omega)
    · obtain rfl : j = l.length := by omega
      obtain rfl := HA.out.2.1 rfl
      obtain ⟨ao2, cp2, rfl⟩ := owns_slice HR.out
      go_wp2
      go_ret
      exact ⟨_, _, _, _, rfl, HT.out⟩
end Go.Proofs.Ytkpfbgeaodopoaa.fnDirect
