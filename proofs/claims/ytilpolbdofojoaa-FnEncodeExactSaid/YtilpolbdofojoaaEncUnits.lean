/-
  FnEncodeExact: the specification's reading of all code points.
-/
import Derived.Test.YtilpolbdofojoaaOwn
import Derived.Test.YtilpolbdofojoaaEncPoint
namespace Go.Proofs.Ytilpolbdofojoaa.fnEncodeExact
open Go.RowKit
set_option linter.unusedSimpArgs false
set_option linter.unusedVariables false

theorem infoInt : (Try.prog.info? 3).map (fun i => (i.zero, i.size, i.bytes)) = some (some (.int .i64 0), 1, 8) := by kernel_rfl

def ints (L : List Nat) : List Value := L.map fun r => .int .i64 (Int.ofNat r)

set_option maxRecDepth 100000 in
theorem units_any (s : ByteArray) (hz : s.size ≤ 2000) (w : World) :
    Calls Try.prog 10 #[.string s] w fun e w' => (∃ v b, e = .returned (.tuple #[v, .bool b]) ∧ (b = true → ∃ L, Upto s s.size L)) ∧ Below w.heap.size w w' := by
  go_enter Try.func10, Try.ntmps10
  go_wp2_with fail
  go_loopw [4, 5] (fun v i wr => ∃ (k : Nat) (L : List Nat), i = .int .i64 k ∧ Upto s k L ∧ wr.ownsRow w.heap.size 3 1 v L.length (ints L) ∧ Below w.heap.size w wr) (fun _ i _ => s.size - (intOf i).toNat)
  case atStart => exact ⟨0, [], rfl, .zero, own_new w _, by go_grown⟩
  case round =>
    obtain ⟨k, L, rfl, hup, hown, hbel⟩ := hrel
    have hsz := hbel.size
    have hk := hup.le.1
    have hL := hup.le.2
    have HU := Lib.hid hup
    have HO := Lib.hid hown
    clear hup hown
    by_cases hlt : k < s.size
    · go_wp2_with fail
      refine (point_any s k hlt hz _).mono ?_
      rintro e w1 ⟨r, n, rfl, hp, rfl⟩
      rcases hp with rfl | hp
      · go_wp2
        go_ret2
        exact ⟨⟨_, false, rfl, fun h => by cases h⟩, hbel⟩
      have hn : ¬ (n : Int) = 0 := by have := hp.pos; omega
      have hn2 := hp.fits
      have hn3 := hp.pos
      have HP := Lib.hid hp
      clear hp
      go_wp2_with (at_builtin; refine wpList_append_run rfl (.tmp 21) (.tmp 23) 22 rfl (app1 (wr := wr) (B := w.heap.size) 22 22 3 Try.underlying22 infoInt rfl HO.out hsz (World.grownBy_alloc _ _ none) (by omega) (by omega) (.int .i64 (Int.ofNat r)) rfl _ _ (by simp)) ?_; rintro v1 w2 ⟨hown, hg, hb⟩)
      go_roundw
      case rel => exact ⟨k + n, L ++ [r], by go_num, HU.out.step HP.out, by simpa [ints] using hown, (hbel.grown (World.grownBy_alloc _ _ none) hsz (fun b hb => by cases hb)).grown hg (by simp; omega) (fun b h => (hb b h).1)⟩
      case measure => simp [intOf]; omega
    · obtain rfl : k = s.size := by omega
      go_wp2
      go_ret2
      exact ⟨⟨_, true, rfl, fun _ => ⟨L, HU.out⟩⟩, hbel⟩

theorem units9_any (s : ByteArray) (w : World) :
    Calls Try.prog 5 #[.string s] w fun e w' => (∃ v b, e = .returned (.tuple #[v, .bool b]) ∧ (b = true → s.size ≤ 2000 ∧ ∃ L, Upto s s.size L)) ∧ Below w.heap.size w w' := by
  by_cases hz : (2000 : Int) < s.size
  · go_enter Try.func5, Try.ntmps5
    go_wp2
    go_ret2
    exact ⟨⟨_, false, rfl, fun h => by cases h⟩, by go_grown⟩
  · go_enter Try.func5, Try.ntmps5
    go_wp2_with fail
    refine (units_any s (by omega) _).mono ?_
    rintro e w1 ⟨⟨v, b, rfl, hu⟩, hb⟩
    go_wp2
    go_ret2
    exact ⟨⟨_, b, rfl, fun h => ⟨by omega, hu h⟩⟩, hb⟩
end Go.Proofs.Ytilpolbdofojoaa.fnEncodeExact
