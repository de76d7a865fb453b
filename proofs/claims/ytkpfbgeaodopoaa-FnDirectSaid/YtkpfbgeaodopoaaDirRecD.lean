/-
  FnDirect: the recogniser: lists of kinds.
-/
import Derived.Test.YtkpfbgeaodopoaaDirRecC
namespace Go.Proofs.Ytkpfbgeaodopoaa.fnDirect
open Go.RowKit
set_option linter.unusedSimpArgs false
set_option linter.unusedVariables false

/-- Kinds in memory. -/
def KsIn (w : World) (g : Nat) (ks : List Int) : Prop := ∀ (i : Nat) (q : Int), ks[i]? = some q → w.cell? ⟨g, i, none⟩ = some (.int .i64 q)

theorem KsIn.below {w w' : World} {g : Nat} {ks : List Int} (h : KsIn w g ks) (hb : Below w.heap.size w w') : KsIn w' g ks := fun i q hi => cell_later hb (h i q hi)

theorem KsIn.new (w : World) (ks : List Int) (t : TypeId) : KsIn (w.alloc (.cells (ks.map (Value.int .i64)).toArray t)) w.heap.size ks := fun i q hi => cell_of_block (block_new w _) (by simp [hi])

set_option maxRecDepth 100000 in
set_option maxHeartbeats 1600000 in
theorem kinds_yes (a : Addr) (n cap : Nat) (E : Nat → Nd) (hn : n ≤ 400) (l : List Nat) (lv : Value) (g : Nat) (ks : List Int) (hks : ks.length ≤ 5) (w : World) (hl : ∀ k ∈ l, k < n) (hln : l.length ≤ n) (ht : Lies w a n E) (hI : NumsIn w lv l) (hK : KsIn w g ks) :
    Calls Try.prog 28 #[.slice (some a) n cap, lv, .slice (some ⟨g, 0, none⟩) ks.length ks.length] w fun e w' => Yes (∀ k ∈ l, (E k).kind ∈ ks) e ∧ Below w.heap.size w w' := by
  obtain ⟨ao, cp, rfl, hc1, hc2⟩ := hI.form
  have HI := Lib.hid hI
  have HT := Lib.hid ht
  have HL := Lib.hid hl
  have HK := Lib.hid hK
  clear hI ht hl hK
  go_enter Try.func28, Try.ntmps28
  go_wp2
  go_loopw [7] (fun v wr => ∃ j : Nat, v = .int .i64 j ∧ j ≤ l.length ∧ Below w.heap.size w wr ∧ Hid (∀ m, m < j → ∀ k, l[m]? = some k → (E k).kind ∈ ks)) (fun v _ => l.length - (intOf v).toNat)
  case atStart => exact ⟨0, rfl, Nat.zero_le _, Below.refl _ _, Lib.hid (fun m hm => absurd hm (by omega))⟩
  case round =>
    obtain ⟨j, rfl, hj, hbel, HJ⟩ := hrel
    by_cases hlt : j < l.length
    · obtain ⟨k, hk⟩ : ∃ k, l[j]? = some k := ⟨_, List.getElem?_eq_getElem hlt⟩
      have hkn := HL.out k (List.mem_of_getElem? hk)
      have HKj := Lib.hid hk
      clear hk
      rename World => W0
      go_wp2
      go_loopw [8, 9] (fun u v wr => ∃ (q : Nat) (b : Bool), u = .bool b ∧ v = .int .i64 q ∧ q ≤ ks.length ∧ Below w.heap.size w wr ∧ Hid (b = true → (E k).kind ∈ ks)) (fun _ v _ => ks.length - (intOf v).toNat)
      case atStart => exact ⟨0, false, rfl, rfl, Nat.zero_le _, by go_grown, Lib.hid (fun h => by cases h)⟩
      case round =>
        obtain ⟨q, b, rfl, rfl, hq, hbel2, HB⟩ := hrel
        by_cases hlt2 : q < ks.length
        · obtain ⟨x, hx⟩ : ∃ x, ks[q]? = some x := ⟨_, List.getElem?_eq_getElem hlt2⟩
          have HIr := Lib.hid (HI.out.below hbel2)
          obtain ⟨g', o', he, hc⟩ := HIr.out.get HKj.out
          have hx2 := (HK.out.below hbel2) q x hx
          obtain ⟨q0, -⟩ := (HT.out.below hbel2) k hkn
          have hkn' : (k : Int) < n := by omega
          have HX := Lib.hid hx
          clear hx
          cases he
          generalize hke : (E k).kind = ke at q0
          have HKE := Lib.hid hke
          clear hke
          have hlt' : (j : Int) < l.length := by omega
          have hlt2' : (q : Int) < ks.length := by omega
          cases b
          · go_wp2
            go_region
            go_wp2
            go_roundw
            case rel => exact ⟨q + 1, _, rfl, by go_num, by omega, by go_grown, Lib.hid (fun h => by
              have : ke = x := by simpa using h
              rw [this]
              exact List.mem_of_getElem? HX.out)⟩
            case measure => first | (simp [intOf]; done) | (simp [intOf]; omega)
          · go_wp2
            go_region
            go_wp2
            go_roundw
            case rel => exact ⟨q + 1, true, rfl, by go_num, by omega, by go_grown, Lib.hid (fun _ => by
              have h2 := HB.out (by first | rfl | trivial)
              rw [HKE.out] at h2
              exact h2)⟩
            case measure => first | (simp [intOf]; done) | (simp [intOf]; omega)
        · obtain rfl : q = ks.length := by omega
          cases b
          · go_wp2
            go_ret
            exact ⟨⟨_, rfl, fun h => by cases h⟩, hbel2⟩
          · go_wp2
            go_roundw
            case rel =>
              refine ⟨j + 1, by go_num, by omega, hbel2, Lib.hid (fun m hm k' hk' => ?_)⟩
              by_cases hmj : m < j
              · exact HJ.out m hmj k' hk'
              · obtain rfl : m = j := by omega
                rw [HKj.out] at hk'
                cases hk'
                exact HB.out (by first | rfl | trivial)
            case measure => first | (simp [intOf]; done) | (simp [intOf]; omega)
    · obtain rfl : j = l.length := by omega
      go_wp2
      go_ret
      refine ⟨⟨_, rfl, fun _ k hk => ?_⟩, hbel⟩
      obtain ⟨m, hm⟩ := List.mem_iff_getElem?.1 hk
      exact HJ.out m (List.getElem?_eq_some_iff.1 hm).1 k hm
end Go.Proofs.Ytkpfbgeaodopoaa.fnDirect
