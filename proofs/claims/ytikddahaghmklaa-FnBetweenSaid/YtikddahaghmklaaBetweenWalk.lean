/-
  The walk of FnBetween: for every input the Go code returns true and turns nothing that was there.
  No condition.
-/
import Derived.Test.YtikddahaghmklaaBetweenImpl
import Derived.WalkKit
import Derived.Below
import Derived.Lib.Hide
import Derived.Outline
import Derived.OpenShut
import Derived.Handy
import Derived.RegionTactic
import Derived.ChangeAlike
import Derived.Deep.RegionWith
import Derived.Deep.QuietTactic
import Derived.BigQuiet
import Derived.StillTailTactics
import Derived.WalkLawsBesides
import Derived.WalkSpells
import Derived.ProofKit
import Derived.Lib.SmallJoins
import Derived.Laws.StructEq
import Derived.Laws.Tables
namespace Go.Proofs.Ytikddahaghmklaa.fnBetween
open Go.RowKit


set_option maxRecDepth 100000 in
/-- '==' of two places. -/
@[go_sem] theorem eqPlace (a b c d : Int) (w : World) : (Op.equalIn 10000 25 (.agg #[.int .i64 a, .int .i64 b]) (.agg #[.int .i64 c, .int .i64 d])).run Try.prog w = .ok (a == c && b == d) w := by
  have u3 := Try.underlying3
  have a3 := Try.isAgg3
  have z3 := Try.sizeOf3
  have hS : Try.prog.underlying 25 = some (.struct (Try.prog.fieldsOf 25)) := by kernel_rfl
  have hp : Try.prog.stoodInHeld 25 = false := by kernel_rfl
  rw [show (10000 : Nat) = 9999 + 1 from rfl, run_equalIn_agg w 9999 25 _ _ hS hp]
  simp only [Program.fieldsOf, Try.underlying25]
  go_simp
  by_cases h1 : a = c <;> by_cases h2 : b = d <;> simp [h1, h2]

theorem cellsPlace : Try.prog.cellsOf 25 = 2 := by kernel_rfl

open Go.ChangeShapes Go.WideShapes Go.Joins in
set_option maxRecDepth 100000 in
/-- A place that came in, read: two numbers. -/
theorem Place_open {H : Type} {enc : TypeId × Value → H} {W : World} {base b0 : Nat} {spare : Nat → Bool} {held : Bool} {r : Reach} {v : Value} {d : DataW H} {p : List MemPlace}
    (hv : Value.okWide Try.prog W r b0 25 v) (h : DataW.Trod enc Try.prog W base spare held 25 v d p) : ∃ z : Int × Int, v = .agg #[.int .i64 z.1, .int .i64 z.2] := by
  obtain ⟨c0, c1, y0, y1, m, rfl, rfl, rfl, hy0, hy1⟩ := open_agg2 Try.underlying25 (by kernel_rfl) cellsPlace hv h
  obtain ⟨a, e0, rfl, wa⟩ := DataW.trod_int Try.underlying3 hy0
  obtain ⟨b, e1, rfl, wb⟩ := DataW.trod_int Try.underlying3 hy1
  simp at e0 e1
  subst e0 e1
  exact ⟨(a, b), rfl⟩

theorem walk (v0 : Value) (z0 : Int × Int) (v1 : Value) (z1 : Int × Int) (v2 : Value) (z2 : Int × Int) (v3 : Value) (z3 : Int × Int) (w : World) (w0 : v0 = .agg #[.int .i64 z0.1, .int .i64 z0.2]) (w1 : v1 = .agg #[.int .i64 z1.1, .int .i64 z1.2]) (w2 : v2 = .agg #[.int .i64 z2.1, .int .i64 z2.2]) (w3 : v3 = .agg #[.int .i64 z3.1, .int .i64 z3.2]) :
    Calls Try.prog 4 #[v0, v1, v2, v3] w fun e w' => e = .returned (.bool true) ∧ Below w.heap.size w w' := by
  subst w0 w1 w2 w3
  obtain ⟨a, b⟩ := z0
  obtain ⟨c, d⟩ := z1
  obtain ⟨e, f⟩ := z2
  obtain ⟨g, h⟩ := z3
  dsimp only
  by_cases h1 : a < 1
  · go_enter Try.func4, Try.ntmps4
    go_wp2
    go_ret
    exact ⟨rfl, by go_grown⟩
  · by_cases h2 : b < 1
    · go_enter Try.func4, Try.ntmps4
      go_wp2
      go_ret
      exact ⟨rfl, by go_grown⟩
    · go_enter Try.func4, Try.ntmps4
      go_wp2_with fail
      refine (inorder_any _ a b c d g h _ ?_ ?_ ?_ ?_ ?_ ?_).mono ?_
      · go_simp
      · go_simp
      · go_simp
      · go_simp
      · go_simp
      · go_simp
      rintro r w1 ⟨r, n, rfl, rfl⟩
      cases r
      · go_wp2
        go_ret
        exact ⟨rfl, by refine below_drewN ?_ _; go_grown⟩
      · go_wp2_with fail
        refine (inorder_any _ a b e f g h _ ?_ ?_ ?_ ?_ ?_ ?_).mono ?_
        · go_simp
        · go_simp
        · go_simp
        · go_simp
        · go_simp
        · go_simp
        rintro r w1 ⟨r, m, rfl, rfl⟩
        cases r
        · go_wp2
          go_ret
          exact ⟨rfl, by repeat' (first | (with_reducible refine below_drewN ?_ _) | (with_reducible refine Below.alloc ?_ ?_ _) | (with_reducible exact Below.refl _ _) | go_size)⟩
        · go_wp2_with fail
          refine named (fun W => Below w.heap.size w W ∧ w.heap.size + 3 < W.heap.size ∧ (W.cell? ⟨w.heap.size, 0, none⟩ = some (.int .i64 a) ∧ W.cell? ⟨w.heap.size, 1, none⟩ = some (.int .i64 b) ∧ W.cell? ⟨w.heap.size + 1 + 1 + 1, 0, none⟩ = some (.int .i64 g) ∧ W.cell? ⟨w.heap.size + 1 + 1 + 1, 1, none⟩ = some (.int .i64 h))) ?_ ?_
          · refine ⟨?_, by simp, ?_, ?_, ?_, ?_⟩
            · repeat' (first | (with_reducible refine below_drewN ?_ _) | (with_reducible refine Below.alloc ?_ ?_ _) | (with_reducible exact Below.refl _ _) | go_size)
            all_goals go_simp
          · rintro W ⟨hB, hs, k0, k1, k2, k3⟩
            refine (impl_any a b c d e f g h _).mono ?_
            rintro r w1 ⟨rfl, hb⟩
            obtain ⟨hc, hf⟩ := bcell hb
            have hz := hb.size
            have hB1 : Below w.heap.size w w1 := hB.trans (hb.mono (by omega))
            rw [← hc _ _ (by omega)] at k0 k1 k2 k3
            have hs0 : w.heap.size < w1.heap.size := by omega
            have hs1 : w.heap.size + 1 < w1.heap.size := by omega
            have hs2 : w.heap.size + 1 + 1 < w1.heap.size := by omega
            have hs3 : w.heap.size + 1 + 1 + 1 < w1.heap.size := by omega
            clear hc hf hb hz hs hB
            go_wp2
            go_ret
            exact ⟨rfl, by go_grown⟩
end Go.Proofs.Ytikddahaghmklaa.fnBetween
