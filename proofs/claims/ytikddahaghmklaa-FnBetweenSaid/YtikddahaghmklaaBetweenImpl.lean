/-
  The walk of FnBetween: for every input the Go code returns true and turns nothing that was there.
  No condition.
-/
import Derived.Test.YtikddahaghmklaaBetweenParts
import Derived.WalkKit
import Derived.Below
import Derived.Lib.Hide
import Derived.Outline
import Derived.OpenShut
import Derived.Handy
import Derived.RegionTactic
import Derived.ChangeAlike
import Derived.Deep.RegionWith
import Derived.Deep.QuietTactic
import Derived.BigQuiet
import Derived.StillTailTactics
import Derived.WalkLawsBesides
import Derived.WalkSpells
namespace Go.Proofs.Ytikddahaghmklaa.fnBetween
open Go.RowKit

set_option maxRecDepth 100000 in
theorem between_any (xf yf : Nat) (a b c d : Int) (w : World) (hxy : xf < w.heap.size ∧ yf < w.heap.size) (x0 : w.cell? ⟨xf, 0, none⟩ = some (.pointer none)) (x1 : w.cell? ⟨xf, 1, none⟩ = some (.string ⟨#[]⟩)) (x2 : w.cell? ⟨xf, 2, none⟩ = some (.int .i64 a)) (x3 : w.cell? ⟨xf, 3, none⟩ = some (.int .i64 b)) (y0 : w.cell? ⟨yf, 0, none⟩ = some (.pointer none)) (y4 : w.cell? ⟨yf, 4, none⟩ = some (.int .i64 c)) (y5 : w.cell? ⟨yf, 5, none⟩ = some (.int .i64 d)) :
    Calls Try.prog 24 #[.pointer (some ⟨xf, 0, none⟩), .pointer (some ⟨yf, 0, none⟩)] w
      fun e w' => e = .returned (.agg #[.pointer none, .string ⟨#[]⟩, .int .i64 a, .int .i64 b, .int .i64 c, .int .i64 d]) ∧ Below w.heap.size w w' := by
  go_enter Try.func24, Try.ntmps24
  go_wp2
  go_quiet (fail)
  go_wp2
  refine wp_region_still_tail 16 (by kernel_rfl) (by kernel_rfl) ?_
  change wpStill _ _ (World.drew _) (fun a' => wpList _ _ _ _ a' (World.drew _)) _ _
  simp only [List.take_succ_cons, List.take_zero, List.drop_succ_cons, List.drop_zero]
  repeat still_step
  refine wpStill_nil ?_
  go_wp2_with (go_at_call 23; refine (make_any _ _ _ _ _ _ _).mono ?_; rintro e w1 ⟨rfl, rfl⟩)
  go_returns
  refine ⟨rfl, ?_⟩
  go_grown
  refine below_drewN ?_ _
  go_grown

theorem named {P : Program} {f : FuncId} {args : Array Value} {w : World} {Q : Ending → World → Prop} (F : World → Prop) (hF : F w) (h : ∀ W, F W → Calls P f args W Q) : Calls P f args w Q := h w hF

set_option maxHeartbeats 1600000 in
theorem impl_any (a b c d e f g h : Int) (w : World) :
    Calls Try.prog 12 #[.agg #[.int .i64 a, .int .i64 b], .agg #[.int .i64 c, .int .i64 d], .agg #[.int .i64 e, .int .i64 f], .agg #[.int .i64 g, .int .i64 h]] w
      fun r w' => r = .returned (.tuple #[.agg #[.int .i64 a, .int .i64 b], .agg #[.int .i64 g, .int .i64 h]]) ∧ Below w.heap.size w w' := by
  go_enter Try.func12, Try.ntmps12
  go_wp2_with fail
  refine (make_any _ _ _ _ _ _ _).mono ?_
  rintro r w1 ⟨rfl, rfl⟩
  go_wp2_with fail
  refine (make_any _ _ _ _ _ _ _).mono ?_
  rintro r w1 ⟨rfl, rfl⟩
  go_wp2_with fail
  refine named (fun W => Below w.heap.size w W ∧ w.heap.size + 13 < W.heap.size
    ∧ (W.cell? ⟨w.heap.size + 1 + 1 + 1 + 1, 0, none⟩ = some (.int .i64 0) ∧ W.cell? ⟨w.heap.size + 1 + 1 + 1 + 1, 1, none⟩ = some (.int .i64 0) ∧ W.cell? ⟨w.heap.size + 1 + 1 + 1 + 1 + 1, 0, none⟩ = some (.int .i64 0) ∧ W.cell? ⟨w.heap.size + 1 + 1 + 1 + 1 + 1, 1, none⟩ = some (.int .i64 0))
    ∧ (W.frozen? ⟨w.heap.size + 1 + 1 + 1 + 1, 0, none⟩ = false ∧ W.frozen? ⟨w.heap.size + 1 + 1 + 1 + 1, 1, none⟩ = false ∧ W.frozen? ⟨w.heap.size + 1 + 1 + 1 + 1 + 1, 0, none⟩ = false ∧ W.frozen? ⟨w.heap.size + 1 + 1 + 1 + 1 + 1, 1, none⟩ = false)
    ∧ (W.cell? ⟨w.heap.size + 1 + 1 + 1 + 1 + 1 + 1 + 1 + 1 + 1, 0, none⟩ = some (.pointer none) ∧ W.cell? ⟨w.heap.size + 1 + 1 + 1 + 1 + 1 + 1 + 1 + 1 + 1, 1, none⟩ = some (.string ⟨#[]⟩) ∧ W.cell? ⟨w.heap.size + 1 + 1 + 1 + 1 + 1 + 1 + 1 + 1 + 1, 2, none⟩ = some (.int .i64 a) ∧ W.cell? ⟨w.heap.size + 1 + 1 + 1 + 1 + 1 + 1 + 1 + 1 + 1, 3, none⟩ = some (.int .i64 b)
      ∧ W.cell? ⟨w.heap.size + 1 + 1 + 1 + 1 + 1 + 1 + 1 + 1 + 1 + 1 + 1 + 1 + 1, 0, none⟩ = some (.pointer none) ∧ W.cell? ⟨w.heap.size + 1 + 1 + 1 + 1 + 1 + 1 + 1 + 1 + 1 + 1 + 1 + 1 + 1, 4, none⟩ = some (.int .i64 g) ∧ W.cell? ⟨w.heap.size + 1 + 1 + 1 + 1 + 1 + 1 + 1 + 1 + 1 + 1 + 1 + 1 + 1, 5, none⟩ = some (.int .i64 h))) ?_ ?_
  · refine ⟨by go_grown, by simp, ⟨?_, ?_, ?_, ?_⟩, ⟨?_, ?_, ?_, ?_⟩, ⟨?_, ?_, ?_, ?_, ?_, ?_, ?_⟩⟩ <;> go_simp
  · rintro W ⟨hB, hs, ⟨k0, k1, k2, k3⟩, ⟨f0, f1, f2, f3⟩, ⟨x0, x1, x2, x3, y0, y4, y5⟩⟩
    refine (between_any _ _ a b g h _ ⟨by omega, by omega⟩ x0 x1 x2 x3 y0 y4 y5).mono ?_
    rintro r w1 ⟨rfl, hb⟩
    obtain ⟨hc, hf⟩ := bcell hb
    have hz := hb.size
    have hB1 : Below w.heap.size w w1 := hB.trans (hb.mono (by omega))
    rw [← hc _ _ (by omega)] at k0 k1 k2 k3
    rw [← hf _ _ (by omega)] at f0 f1 f2 f3
    have hs4 : w.heap.size + 1 + 1 + 1 + 1 < w1.heap.size := by omega
    have hs5 : w.heap.size + 1 + 1 + 1 + 1 + 1 < w1.heap.size := by omega
    clear hc hf x0 x1 x2 x3 y0 y4 y5 hb hz hs hB
    go_wp2
    go_region
    go_wp2
    refine bodyPost_ret (v := .tuple #[.agg #[.int .i64 a, .int .i64 b], .agg #[.int .i64 g, .int .i64 h]]) (by simp [results, Try.results12, go_sem, hs4, hs5, k0, k1, k2, k3]) rfl ?_
    refine ⟨rfl, ?_⟩
    go_grown

end Go.Proofs.Ytikddahaghmklaa.fnBetween
