/-
  The walk of FnTighter: for every input the Go code returns true and turns nothing that was there.
  No condition.
-/
import Derived.Test.YtikddahaghmklaaRows
import Derived.WalkKit
import Derived.Below
import Derived.OpenShut
namespace Go.Proofs.Ytikddahaghmklaa.fnTighter
open Go.RowKit

theorem walk (a0 : Int) (w : World) (w0 : (Lit.int .u8 a0).wf = true) :
    Calls Try.prog 3 #[.int .u8 a0] w fun e w' => e = .returned (.bool true) ∧ Below w.heap.size w w' := by
  obtain ⟨h1, h2⟩ := bounds_u8 w0
  go_enter Try.func3, Try.ntmps3
  go_wp2
  go_ret
  exact ⟨rfl, Below.refl _ _⟩
end Go.Proofs.Ytikddahaghmklaa.fnTighter
