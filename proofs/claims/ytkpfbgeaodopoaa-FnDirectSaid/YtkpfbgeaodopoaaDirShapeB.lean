/-
  FnDirect: the recogniser: all nodes with kids of several sorts.
-/
import Derived.Test.YtkpfbgeaodopoaaDirShapeB1
import Derived.Test.YtkpfbgeaodopoaaDirShapeB2
import Derived.Test.YtkpfbgeaodopoaaDirShapeB3
import Derived.Test.YtkpfbgeaodopoaaDirShapeB4
namespace Go.Proofs.Ytkpfbgeaodopoaa.fnDirect
open Go.RowKit
set_option linter.unusedSimpArgs false
set_option linter.unusedVariables false

set_option maxRecDepth 100000 in
set_option maxHeartbeats 1600000 in
theorem great_yes (a : Addr) (n cap : Nat) (E : Nat → Nd) (hn : n ≤ 400) (i : Nat) (l : List Nat) (lv : Value) (w : World) (hi : i < n) (hl : ∀ k ∈ l, k < n) (hln : l.length ≤ n) (ht : Lies w a n E) (hI : NumsIn w lv l) (hB : BareOk (E i).kind (E i).op (E i).flag) :
    Calls Try.prog 29 #[.slice (some a) n cap, .int .i64 i, lv] w fun e w' => Yes (Shape E (E i) l) e ∧ Below w.heap.size w w' := by
  by_cases hk : (E i).kind ∈ [(17 : Int), 29, 12, 13, 14, 19, 32, 20, 18, 35]
  · simp only [List.mem_cons, List.not_mem_nil, or_false] at hk
    rcases hk with hk | hk | hk | hk | hk | hk | hk | hk | hk | hk
    · exact great_17 a n cap E hn i l lv w hi hl hln ht hI hk
    · exact great_29 a n cap E hn i l lv w hi hl hln ht hI hk
    · exact great_12 a n cap E hn i l lv w hi hl hln ht hI hk
    · exact great_13 a n cap E hn i l lv w hi hl hln ht hI hk
    · exact great_14 a n cap E hn i l lv w hi hl hln ht hI hk
    · exact great_19 a n cap E hn i l lv w hi hl hln ht hI hk
    · rcases hB.2.2.1 (by rw [hk]; decide) with hf | hf
      · exact great_32_0 a n cap E hn i l lv w hi hl hln ht hI hk hf
      · exact great_32_1 a n cap E hn i l lv w hi hl hln ht hI hk hf
    · exact great_20 a n cap E hn i l lv w hi hl hln ht hI hk
    · exact great_18 a n cap E hn i l lv w hi hl hln ht hI hk
    · obtain ⟨hf, hop⟩ := hB.2.2.2 hk
      simp only [List.mem_cons, List.not_mem_nil, or_false] at hf
      rcases hf with hf | hf | hf | hf | hf | hf | hf | hf | hf
      · exact great_35_0 a n cap E hn i l lv w hi hl hln ht hI hk hf hop
      · exact great_35_1 a n cap E hn i l lv w hi hl hln ht hI hk hf hop
      · exact great_35_2 a n cap E hn i l lv w hi hl hln ht hI hk hf hop
      · exact great_35_4 a n cap E hn i l lv w hi hl hln ht hI hk hf hop
      · exact great_35_5 a n cap E hn i l lv w hi hl hln ht hI hk hf hop
      · exact great_35_6 a n cap E hn i l lv w hi hl hln ht hI hk hf hop
      · exact great_35_8 a n cap E hn i l lv w hi hl hln ht hI hk hf hop
      · exact great_35_9 a n cap E hn i l lv w hi hl hln ht hI hk hf hop
      · exact great_35_10 a n cap E hn i l lv w hi hl hln ht hI hk hf hop
  · exact great_other a n cap E hn i l lv w hi hl hln ht hI hk
end Go.Proofs.Ytkpfbgeaodopoaa.fnDirect
