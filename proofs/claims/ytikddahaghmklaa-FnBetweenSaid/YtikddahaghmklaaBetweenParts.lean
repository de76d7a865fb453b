/-
  Parts of the walk of FnBetween: what its callees return.
  No condition.
-/
import Derived.Test.YtikddahaghmklaaRows
import Derived.WalkKit
import Derived.Below
import Derived.Lib.Hide
import Derived.Outline
import Derived.OpenShut
import Derived.Handy
import Derived.RegionTactic
import Derived.ChangeAlike
import Derived.Deep.RegionWith
import Derived.Deep.QuietTactic
import Derived.BigQuiet
import Derived.WalkLawsBesides
import Derived.WalkSpells
namespace Go.Proofs.Ytikddahaghmklaa.fnBetween
open Go.RowKit

/-- MakeLocationRange: the struct of its arguments. -/
theorem make_any (s : ByteArray) (o : Option Addr) (a b c d : Int) (w : World) :
    Calls Try.prog 23 #[.string s, .pointer o, .agg #[.int .i64 a, .int .i64 b], .agg #[.int .i64 c, .int .i64 d]] w
      fun e w' => e = .returned (.agg #[.pointer o, .string s, .int .i64 a, .int .i64 b, .int .i64 c, .int .i64 d]) ∧
        ((w.alloc (.cells #[.int .i64 a, .int .i64 b] 51)).alloc (.cells #[.int .i64 c, .int .i64 d] 51)).alloc (.cells #[.pointer o, .string s, .int .i64 a, .int .i64 b, .int .i64 c, .int .i64 d] 53) = w' := by
  go_enter Try.func23, Try.ntmps23
  go_wp2
  go_returns
  exact ⟨rfl, rfl⟩

/-- Some bool, and nothing turned but the draws. -/
def SomeBool (w : World) (e : Ending) (w' : World) : Prop := ∃ r n, e = .returned (.bool r) ∧ w' = w.drewN n

theorem drewN_drewN (w : World) (a b : Nat) : (w.drewN a).drewN b = w.drewN (a + b) := by
  simp

set_option maxHeartbeats 1000000 in
theorem inorder_any (b : Nat) (x0 y0 x1 y1 x2 y2 : Int) (w : World) (h0 : w.cell? ⟨b, 0, none⟩ = some (.int .i64 x0)) (h1 : w.cell? ⟨b, 1, none⟩ = some (.int .i64 y0)) (h2 : w.cell? ⟨b, 2, none⟩ = some (.int .i64 x1)) (h3 : w.cell? ⟨b, 3, none⟩ = some (.int .i64 y1)) (h4 : w.cell? ⟨b, 4, none⟩ = some (.int .i64 x2)) (h5 : w.cell? ⟨b, 5, none⟩ = some (.int .i64 y2)) :
    Calls Try.prog 11 #[.slice (some ⟨b, 0, none⟩) 3 3] w (SomeBool w) := by
  have hA : decide (x1 < x0) = true ∨ decide (x1 < x0) = false ∧ ((x1 == x0) = true ∧ (decide (y1 < y0) = true ∨ decide (y1 < y0) = false) ∨ (x1 == x0) = false) := by
    cases decide (x1 < x0) <;> cases (x1 == x0) <;> cases decide (y1 < y0) <;> simp
  have hB : decide (x2 < x1) = true ∨ decide (x2 < x1) = false ∧ ((x2 == x1) = true ∧ (decide (y2 < y1) = true ∨ decide (y2 < y1) = false) ∨ (x2 == x1) = false) := by
    cases decide (x2 < x1) <;> cases (x2 == x1) <;> cases decide (y2 < y1) <;> simp
  rcases hA with hA | ⟨hA, ⟨hA1, hA2 | hA2⟩ | hA1⟩
  all_goals
    have HB := Lib.hid hB
    clear hB
    go_enter Try.func11, Try.ntmps11
    go_wp2
    refine wp_loop_rounds 3 ?_
    rw [rounds_succ]
    go_wp2
    go_quiet (fail)
    go_wp2
    first
      | (go_ret; exact ⟨_, _, rfl, rfl⟩)
      | (rw [rounds_succ]
         have hB := HB.out
         clear HB
         rcases hB with hB | ⟨hB, ⟨hB1, hB2 | hB2⟩ | hB1⟩
         all_goals
           go_wp2
           go_quiet (fail)
           go_wp2
           first
             | (go_ret; first | exact ⟨_, _, rfl, rfl⟩ | exact ⟨_, _, rfl, drewN_drewN _ _ _⟩)
             | (rw [rounds_succ]; go_wp2; go_ret; first | exact ⟨_, _, rfl, rfl⟩ | exact ⟨_, _, rfl, drewN_drewN _ _ _⟩))

theorem bcell {W w1 : World} (hb : Below W.heap.size W w1) : (∀ b o, b < W.heap.size → w1.cell? ⟨b, o, none⟩ = W.cell? ⟨b, o, none⟩) ∧ (∀ b o, b < W.heap.size → w1.frozen? ⟨b, o, none⟩ = W.frozen? ⟨b, o, none⟩) :=
  ⟨fun b o h => hb.cell (p := ⟨b, o, none⟩) h, fun b o h => hb.frozen (p := ⟨b, o, none⟩) h⟩

end Go.Proofs.Ytikddahaghmklaa.fnBetween
