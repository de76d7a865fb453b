/-
  FnDirect: the builder's binds, arguments; functions, locals, calls.
-/
import Derived.Test.YtkpfbgeaodopoaaDirBind
namespace Go.Proofs.Ytkpfbgeaodopoaa.fnDirect
open Go.RowKit
set_option linter.unusedSimpArgs false
set_option linter.unusedVariables false

theorem infoLb : (Try.prog.info? 198).map (fun i => (i.zero, i.size, i.bytes)) = some (some (.agg #[.slice none 0 0, .nilIface, .slice none 0 0, .string ⟨#[]⟩, .slice none 0 0, .pointer none, .pointer none, .string ⟨#[]⟩, .int .i64 0, .int .i64 0, .int .i64 0, .int .i64 0]), 12, 168) := by kernel_rfl

theorem bind_any (c : Ctx) (N i : Nat) (ih : NodeTo c N) (hf : Fit c.E c.n) (hn : c.n ≤ 400) (w : World) (P : Nat → Value) (hi : i < c.n) (hB : Bound c N i) (hb : Bld c w P) :
    Calls Try.prog 59 #[.pointer (some ⟨c.bb, 0, none⟩), .int .i64 i] w fun e w' => ∃ nm T y fn P', e = .returned (.agg #[.slice none 0 0, (.iface T (.pointer (some ⟨y, 0, none⟩))), .slice none 0 0, .string nm, .slice none 0 0, (.pointer fn), .pointer none, .string ⟨#[]⟩, .int .i64 0, .int .i64 0, .int .i64 0, .int .i64 0]) ∧ St c w P i (i + sz c.E i) w' P' := by
  obtain ⟨h1, h2, h3⟩ := hB
  rcases h3 with ⟨h4, a, h5, h6⟩ | ⟨h4, l, q, h5, h6, h7⟩
  · exact (bind_plain c N i ih hf hn w P hi h1 h2 hb h4 a h5 h6).mono fun e w' ⟨T, y, fn, P', he, hs⟩ => ⟨_, T, y, fn, P', he, hs⟩
  · exact (bind_fun c N i ih hf hn w P hi h1 h2 hb h4 l q h5 h6 h7).mono fun e w' ⟨T, y, fn, P', he, hs⟩ => ⟨_, T, y, fn, P', he, hs⟩

set_option maxRecDepth 100000 in
set_option maxHeartbeats 1600000 in
theorem binds_any (c : Ctx) (N : Nat) (ih : NodeTo c N) (hn : c.n ≤ 400) (l : List Nat) (lo hi : Nat) (lv : Value) (w : World) (P : Nat → Value) (hK : Kin (sz c.E) lo hi l) (hhi : hi ≤ c.n) (hf : Fit c.E c.n) (hex : ∀ k ∈ l, Bound c N k) (hb : Bld c w P) (hl : IntsIn c w lv l) :
    Calls Try.prog 54 #[.pointer (some ⟨c.bb, 0, none⟩), lv] w fun e w' => ∃ ao n cap P', e = .returned (.slice ao n cap) ∧ St c w P lo hi w' P' := by
  obtain ⟨ao, cap, rfl⟩ := hl.form
  have HB := Lib.hid hb
  have HL := Lib.hid hl
  have HK := Lib.hid hK
  have HX := Lib.hid hex
  have HF := Lib.hid hf
  have IH := Lib.hid ih
  have hlen := hK.len
  have hpb := hb.ltp
  clear hb hl hK hex hf ih
  go_enter Try.func54, Try.ntmps54
  go_wp2_with fail
  go_loopw [5, 10] (fun v i wr => ∃ (j m : Nat) (P1 : Nat → Value) (xs : List Value), i = .int .i64 j ∧ j ≤ l.length ∧ Ahead l lo hi j m ∧ St c w P lo m wr P1 ∧ wr.ownsRow w.heap.size 198 12 v j xs) (fun _ i _ => l.length - (intOf i).toNat)
  case atStart => exact ⟨0, lo, P, [], rfl, Nat.zero_le _, Ahead.zero HK.out, St.refl HB.out lo, World.ownsRow_nil _ _ _ _⟩
  case round =>
    obtain ⟨j, m, P1, xs, rfl, hj, hA, hSt, hrow⟩ := hrel
    have HA := Lib.hid hA
    have HT := Lib.hid hSt
    have HR := Lib.hid hrow
    have hsr := hSt.grown.size
    clear hA hSt hrow
    by_cases hlt : j < l.length
    · obtain ⟨k, hk⟩ : ∃ k, l[j]? = some k := ⟨_, List.getElem?_eq_getElem hlt⟩
      obtain rfl := HA.out.1 k hk
      have hkm := List.mem_of_getElem? hk
      obtain ⟨k1, k2, k3⟩ := HK.out.get hk
      have HLr := Lib.hid (HL.out.st HT.out)
      obtain ⟨g, o, rfl, hg, hc⟩ := HLr.out.get hk
      have HC := Lib.hid (bind_any c N m IH.out HF.out hn wr P1 (by omega) (HX.out m hkm) HT.out.bld)
      obtain ⟨ao2, cp2, rfl⟩ := owns_slice HR.out
      have HKk := Lib.hid hk
      clear hk
      go_wp2_with (first | (go_at_call 59; refine HC.out.mono ?_; rintro e w1 ⟨nm, T, y, fn, P2, rfl, h2⟩; have HR1 := Lib.hid (h2.row HR.out hpb); have hs2 := h2.grown.size; have H1 := Lib.hid (And.intro (HT.out.seq h2 k1 (by omega) HB.out) h2); clear h2) | (at_builtin; refine wpList_append_run rfl (.tmp 14) (.tmp 18) 150 rfl (appS (wr := w1) (B := w.heap.size) 150 150 198 Try.underlying150 infoLb rfl (by decide) HR1.out (by omega) (grown_of_below (by go_grown)) (by omega) (by omega) [.slice none 0 0, (.iface T (.pointer (some ⟨y, 0, none⟩))), .slice none 0 0, .string nm, .slice none 0 0, (.pointer fn), .pointer none, .string ⟨#[]⟩, .int .i64 0, .int .i64 0, .int .i64 0, .int .i64 0] rfl (by intro u hu; simp at hu; rcases hu with rfl | rfl | rfl | rfl | rfl | rfl | rfl | rfl | rfl | rfl | rfl | rfl <;> rfl) _ _ (cells_new (by simp))) ?_; rintro v1 w2 ⟨hown2, hg2, hbb⟩; have HO2 := Lib.hid hown2; have HG2 := Lib.hid hg2; clear hown2 hg2 hbb))
      go_roundw
      case rel => exact ⟨j + 1, m + sz c.E m, P2, _, by go_num, by omega, Ahead.succ HK.out HKk.out, (H1.out.1.below (by go_grown)).append HB.out (HB.out.lta (i := m) (by omega)) (own_below HR1.out (by go_grown)) HG2.out (by decide), HO2.out⟩
      case measure => first | (simp [intOf]; done) | (simp [intOf]; omega)
    · obtain rfl : j = l.length := by omega
      obtain rfl := HA.out.2.1 rfl
      obtain ⟨ao2, cp2, rfl⟩ := owns_slice HR.out
      go_wp2
      go_ret
      exact ⟨_, _, _, _, rfl, HT.out⟩
end Go.Proofs.Ytkpfbgeaodopoaa.fnDirect
