/-
  FnDirect: the recogniser: nodes with kids of several sorts.
-/
import Derived.Test.YtkpfbgeaodopoaaDirShapeA
import Derived.Test.YtkpfbgeaodopoaaDirBare
namespace Go.Proofs.Ytkpfbgeaodopoaa.fnDirect
open Go.RowKit
set_option linter.unusedSimpArgs false
set_option linter.unusedVariables false

set_option maxRecDepth 100000 in
set_option maxHeartbeats 1600000 in
theorem great_35_0 (a : Addr) (n cap : Nat) (E : Nat → Nd) (hn : n ≤ 400) (i : Nat) (l : List Nat) (lv : Value) (w : World) (hi : i < n) (hl : ∀ k ∈ l, k < n) (hln : l.length ≤ n) (ht : Lies w a n E) (hI : NumsIn w lv l) (hk : (E i).kind = 35) (hf : (E i).flag = 0) (hop : (E i).op ∈ [(0 : Int), 1, 2]) :
    Calls Try.prog 29 #[.slice (some a) n cap, .int .i64 i, lv] w fun e w' => Yes (Shape E (E i) l) e ∧ Below w.heap.size w w' := by
  have HK := Lib.hid hk
  obtain ⟨q0, q1, q2, q3, q4⟩ := ht i hi
  rw [hk] at q0
  rw [hf] at q3
  have HF := Lib.hid hf
  clear hf
  have hin : (i : Int) < n := by omega
  have HT := Lib.hid ht
  have HL := Lib.hid hl
  clear ht hl hk
  have t3 : bits BinOp.and IntKind.i64 0 3 = 0 := by kernel_rfl
  have t8 : bits BinOp.and IntKind.i64 0 8 = 0 := by kernel_rfl
  rcases l with _ | ⟨x, _ | ⟨y, l⟩⟩
  · obtain ⟨ao, cp, rfl, hc1, hc2⟩ := hI.form
    change Calls _ _ #[_, _, .slice ao 0 cp] _ _
    clear hI hc1
    go_enter Try.func29, Try.ntmps29
    go_upto_region 2 with fail
    obtain ⟨W, hW⟩ : ∃ W, w.alloc (.cells #[.int .i64 35, .int .i64 (E i).op, .string (E i).text, .int .i64 0, .int .i64 (E i).size] 28) = W := ⟨_, rfl⟩
    rw [hW]
    have hbW : Below w.heap.size w W := by rw [← hW]; go_grown
    obtain ⟨z0, z1, z2, z3, z4, -⟩ := cells5 (show W.heap[w.heap.size]? = _ by rw [← hW]; exact block_new w _)
    clear hW
    have HTW := Lib.hid (HT.out.below hbW)
    try have hx0a := cell_later hbW hx0
    try have hx1a := cell_later hbW hx1
    try have hx8a := cell_later hbW hx8
    try have p0a := cell_later hbW p0
    go_wp2_with fail
    all_goals
      go_ret
      refine ⟨⟨_, rfl, fun h => ?_⟩, by first | exact hbw | exact hbW⟩
      first | (cases h; done) | fail
  · have HI := Lib.hid hI
    obtain ⟨ao, cp, rfl, hc1, hc2⟩ := hI.form
    obtain ⟨g, o, rfl, hx0⟩ := hI.get (i := 0) rfl
    simp only [Nat.add_zero] at hx0
    change Calls _ _ #[_, _, .slice (some ⟨g, o, none⟩) 1 cp] _ _
    have hc1' : 1 ≤ cp := hc1
    clear hI hc1
    have hn_x := HL.out x (by simp)
    have hi_x : (x : Int) < n := by omega
    obtain ⟨b_x, hb_x⟩ : ∃ b, decide (ex (E x)) = b := ⟨_, rfl⟩
    have HD_x := Lib.hid hb_x
    clear hb_x
    go_enter Try.func29, Try.ntmps29
    go_upto_region 2 with fail
    obtain ⟨W, hW⟩ : ∃ W, w.alloc (.cells #[.int .i64 35, .int .i64 (E i).op, .string (E i).text, .int .i64 0, .int .i64 (E i).size] 28) = W := ⟨_, rfl⟩
    rw [hW]
    have hbW : Below w.heap.size w W := by rw [← hW]; go_grown
    obtain ⟨z0, z1, z2, z3, z4, -⟩ := cells5 (show W.heap[w.heap.size]? = _ by rw [← hW]; exact block_new w _)
    clear hW
    have HTW := Lib.hid (HT.out.below hbW)
    try have hx0a := cell_later hbW hx0
    try have hx1a := cell_later hbW hx1
    try have hx8a := cell_later hbW hx8
    try have p0a := cell_later hbW p0
    go_wp2_with (first | (go_at_call 28; refine (kinds_yes a n cap E hn [] _ _ [33] (by decide) _ (fun k hk => absurd hk (by simp)) (by simp) (HTW.out.below (by go_grown)) (NumsIn.nil _ _ _ (by omega)) (KsIn.new _ _ _)).mono ?_; rintro e w2 ⟨⟨r, rfl, hr⟩, hb2⟩; have hbw : Below w.heap.size w w2 := below_step (Nat.le_refl _) hbW (below_step (Nat.le_refl _) (by go_grown) hb2); have HR := Lib.hid hr; clear hr; have hx9 := cell_later hbw hx0; cases r) | (go_at_call 15; refine (expr_any a n cap E hn x _ hn_x (HT.out.below hbw)).mono ?_; rintro e w3 ⟨rfl, rfl⟩; rw [HD_x.out]; cases b_x))
    all_goals
      go_ret
      refine ⟨⟨_, rfl, fun h => ?_⟩, by first | exact hbw | exact hbW⟩
      first | (cases h; done) | exact .fieldp x HK.out (by rw [HF.out]; decide) hop rfl (of_decide_eq_true HD_x.out)
  · obtain ⟨ao, cp, rfl, hc1, hc2⟩ := hI.form
    change Calls _ _ #[_, _, .slice ao (l.length + 1 + 1) cp] _ _
    clear hI
    have d1 : ((l.length : Int) + 1 + 1 == 1) = false := by simp; omega
    have d2 : ¬ (l.length : Int) + 1 + 1 = 1 := by omega
    have d3 : ¬ (l.length : Int) + 1 + 1 < 1 := by omega
    go_enter Try.func29, Try.ntmps29
    go_upto_region 2 with fail
    obtain ⟨W, hW⟩ : ∃ W, w.alloc (.cells #[.int .i64 35, .int .i64 (E i).op, .string (E i).text, .int .i64 0, .int .i64 (E i).size] 28) = W := ⟨_, rfl⟩
    rw [hW]
    have hbW : Below w.heap.size w W := by rw [← hW]; go_grown
    obtain ⟨z0, z1, z2, z3, z4, -⟩ := cells5 (show W.heap[w.heap.size]? = _ by rw [← hW]; exact block_new w _)
    clear hW
    have HTW := Lib.hid (HT.out.below hbW)
    try have hx0a := cell_later hbW hx0
    try have hx1a := cell_later hbW hx1
    try have hx8a := cell_later hbW hx8
    try have p0a := cell_later hbW p0
    go_wp2_with fail
    all_goals
      go_ret
      refine ⟨⟨_, rfl, fun h => ?_⟩, by first | exact hbw | exact hbW⟩
      first | (cases h; done) | fail

set_option maxRecDepth 100000 in
set_option maxHeartbeats 1600000 in
theorem great_35_1 (a : Addr) (n cap : Nat) (E : Nat → Nd) (hn : n ≤ 400) (i : Nat) (l : List Nat) (lv : Value) (w : World) (hi : i < n) (hl : ∀ k ∈ l, k < n) (hln : l.length ≤ n) (ht : Lies w a n E) (hI : NumsIn w lv l) (hk : (E i).kind = 35) (hf : (E i).flag = 1) (hop : (E i).op ∈ [(0 : Int), 1, 2]) :
    Calls Try.prog 29 #[.slice (some a) n cap, .int .i64 i, lv] w fun e w' => Yes (Shape E (E i) l) e ∧ Below w.heap.size w w' := by
  have HK := Lib.hid hk
  obtain ⟨q0, q1, q2, q3, q4⟩ := ht i hi
  rw [hk] at q0
  rw [hf] at q3
  have HF := Lib.hid hf
  clear hf
  have hin : (i : Int) < n := by omega
  have HT := Lib.hid ht
  have HL := Lib.hid hl
  clear ht hl hk
  have t3 : bits BinOp.and IntKind.i64 1 3 = 1 := by kernel_rfl
  have t8 : bits BinOp.and IntKind.i64 1 8 = 0 := by kernel_rfl
  rcases l with _ | ⟨x, _ | ⟨y, l⟩⟩
  · obtain ⟨ao, cp, rfl, hc1, hc2⟩ := hI.form
    change Calls _ _ #[_, _, .slice ao 0 cp] _ _
    clear hI hc1
    go_enter Try.func29, Try.ntmps29
    go_upto_region 2 with fail
    obtain ⟨W, hW⟩ : ∃ W, w.alloc (.cells #[.int .i64 35, .int .i64 (E i).op, .string (E i).text, .int .i64 1, .int .i64 (E i).size] 28) = W := ⟨_, rfl⟩
    rw [hW]
    have hbW : Below w.heap.size w W := by rw [← hW]; go_grown
    obtain ⟨z0, z1, z2, z3, z4, -⟩ := cells5 (show W.heap[w.heap.size]? = _ by rw [← hW]; exact block_new w _)
    clear hW
    have HTW := Lib.hid (HT.out.below hbW)
    try have hx0a := cell_later hbW hx0
    try have hx1a := cell_later hbW hx1
    try have hx8a := cell_later hbW hx8
    try have p0a := cell_later hbW p0
    go_wp2_with fail
    all_goals
      go_ret
      refine ⟨⟨_, rfl, fun h => ?_⟩, by first | exact hbw | exact hbW⟩
      first | (cases h; done) | fail
  · have HI := Lib.hid hI
    obtain ⟨ao, cp, rfl, hc1, hc2⟩ := hI.form
    obtain ⟨g, o, rfl, hx0⟩ := hI.get (i := 0) rfl
    simp only [Nat.add_zero] at hx0
    change Calls _ _ #[_, _, .slice (some ⟨g, o, none⟩) 1 cp] _ _
    have hc1' : 1 ≤ cp := hc1
    clear hI hc1
    have hn_x := HL.out x (by simp)
    have hi_x : (x : Int) < n := by omega
    obtain ⟨b_x, hb_x⟩ : ∃ b, decide (ex (E x)) = b := ⟨_, rfl⟩
    have HD_x := Lib.hid hb_x
    clear hb_x
    go_enter Try.func29, Try.ntmps29
    go_upto_region 2 with fail
    obtain ⟨W, hW⟩ : ∃ W, w.alloc (.cells #[.int .i64 35, .int .i64 (E i).op, .string (E i).text, .int .i64 1, .int .i64 (E i).size] 28) = W := ⟨_, rfl⟩
    rw [hW]
    have hbW : Below w.heap.size w W := by rw [← hW]; go_grown
    obtain ⟨z0, z1, z2, z3, z4, -⟩ := cells5 (show W.heap[w.heap.size]? = _ by rw [← hW]; exact block_new w _)
    clear hW
    have HTW := Lib.hid (HT.out.below hbW)
    try have hx0a := cell_later hbW hx0
    try have hx1a := cell_later hbW hx1
    try have hx8a := cell_later hbW hx8
    try have p0a := cell_later hbW p0
    go_wp2_with (first | (go_at_call 28; refine (kinds_yes a n cap E hn [] _ _ [33] (by decide) _ (fun k hk => absurd hk (by simp)) (by simp) (HTW.out.below (by go_grown)) (NumsIn.nil _ _ _ (by omega)) (KsIn.new _ _ _)).mono ?_; rintro e w2 ⟨⟨r, rfl, hr⟩, hb2⟩; have hbw : Below w.heap.size w w2 := below_step (Nat.le_refl _) hbW (below_step (Nat.le_refl _) (by go_grown) hb2); have HR := Lib.hid hr; clear hr; have hx9 := cell_later hbw hx0; cases r) | (go_at_call 15; refine (expr_any a n cap E hn x _ hn_x (HT.out.below hbw)).mono ?_; rintro e w3 ⟨rfl, rfl⟩; rw [HD_x.out]; cases b_x))
    all_goals
      go_ret
      refine ⟨⟨_, rfl, fun h => ?_⟩, by first | exact hbw | exact hbW⟩
      first | (cases h; done) | exact .fieldp x HK.out (by rw [HF.out]; decide) hop rfl (of_decide_eq_true HD_x.out)
  · obtain ⟨ao, cp, rfl, hc1, hc2⟩ := hI.form
    change Calls _ _ #[_, _, .slice ao (l.length + 1 + 1) cp] _ _
    clear hI
    have d1 : ((l.length : Int) + 1 + 1 == 1) = false := by simp; omega
    have d2 : ¬ (l.length : Int) + 1 + 1 = 1 := by omega
    have d3 : ¬ (l.length : Int) + 1 + 1 < 1 := by omega
    go_enter Try.func29, Try.ntmps29
    go_upto_region 2 with fail
    obtain ⟨W, hW⟩ : ∃ W, w.alloc (.cells #[.int .i64 35, .int .i64 (E i).op, .string (E i).text, .int .i64 1, .int .i64 (E i).size] 28) = W := ⟨_, rfl⟩
    rw [hW]
    have hbW : Below w.heap.size w W := by rw [← hW]; go_grown
    obtain ⟨z0, z1, z2, z3, z4, -⟩ := cells5 (show W.heap[w.heap.size]? = _ by rw [← hW]; exact block_new w _)
    clear hW
    have HTW := Lib.hid (HT.out.below hbW)
    try have hx0a := cell_later hbW hx0
    try have hx1a := cell_later hbW hx1
    try have hx8a := cell_later hbW hx8
    try have p0a := cell_later hbW p0
    go_wp2_with fail
    all_goals
      go_ret
      refine ⟨⟨_, rfl, fun h => ?_⟩, by first | exact hbw | exact hbW⟩
      first | (cases h; done) | fail

set_option maxRecDepth 100000 in
set_option maxHeartbeats 1600000 in
theorem great_35_4 (a : Addr) (n cap : Nat) (E : Nat → Nd) (hn : n ≤ 400) (i : Nat) (l : List Nat) (lv : Value) (w : World) (hi : i < n) (hl : ∀ k ∈ l, k < n) (hln : l.length ≤ n) (ht : Lies w a n E) (hI : NumsIn w lv l) (hk : (E i).kind = 35) (hf : (E i).flag = 4) (hop : (E i).op ∈ [(0 : Int), 1, 2]) :
    Calls Try.prog 29 #[.slice (some a) n cap, .int .i64 i, lv] w fun e w' => Yes (Shape E (E i) l) e ∧ Below w.heap.size w w' := by
  have HK := Lib.hid hk
  obtain ⟨q0, q1, q2, q3, q4⟩ := ht i hi
  rw [hk] at q0
  rw [hf] at q3
  have HF := Lib.hid hf
  clear hf
  have hin : (i : Int) < n := by omega
  have HT := Lib.hid ht
  have HL := Lib.hid hl
  clear ht hl hk
  have t3 : bits BinOp.and IntKind.i64 4 3 = 0 := by kernel_rfl
  have t8 : bits BinOp.and IntKind.i64 4 8 = 0 := by kernel_rfl
  rcases l with _ | ⟨x, _ | ⟨y, l⟩⟩
  · obtain ⟨ao, cp, rfl, hc1, hc2⟩ := hI.form
    change Calls _ _ #[_, _, .slice ao 0 cp] _ _
    clear hI hc1
    go_enter Try.func29, Try.ntmps29
    go_upto_region 2 with fail
    obtain ⟨W, hW⟩ : ∃ W, w.alloc (.cells #[.int .i64 35, .int .i64 (E i).op, .string (E i).text, .int .i64 4, .int .i64 (E i).size] 28) = W := ⟨_, rfl⟩
    rw [hW]
    have hbW : Below w.heap.size w W := by rw [← hW]; go_grown
    obtain ⟨z0, z1, z2, z3, z4, -⟩ := cells5 (show W.heap[w.heap.size]? = _ by rw [← hW]; exact block_new w _)
    clear hW
    have HTW := Lib.hid (HT.out.below hbW)
    try have hx0a := cell_later hbW hx0
    try have hx1a := cell_later hbW hx1
    try have hx8a := cell_later hbW hx8
    try have p0a := cell_later hbW p0
    go_wp2_with fail
    all_goals
      go_ret
      refine ⟨⟨_, rfl, fun h => ?_⟩, by first | exact hbw | exact hbW⟩
      first | (cases h; done) | fail
  · have HI := Lib.hid hI
    obtain ⟨ao, cp, rfl, hc1, hc2⟩ := hI.form
    obtain ⟨g, o, rfl, hx0⟩ := hI.get (i := 0) rfl
    simp only [Nat.add_zero] at hx0
    change Calls _ _ #[_, _, .slice (some ⟨g, o, none⟩) 1 cp] _ _
    have hc1' : 1 ≤ cp := hc1
    clear hI hc1
    have hn_x := HL.out x (by simp)
    have hi_x : (x : Int) < n := by omega
    obtain ⟨b_x, hb_x⟩ : ∃ b, decide (ex (E x)) = b := ⟨_, rfl⟩
    have HD_x := Lib.hid hb_x
    clear hb_x
    go_enter Try.func29, Try.ntmps29
    go_upto_region 2 with fail
    obtain ⟨W, hW⟩ : ∃ W, w.alloc (.cells #[.int .i64 35, .int .i64 (E i).op, .string (E i).text, .int .i64 4, .int .i64 (E i).size] 28) = W := ⟨_, rfl⟩
    rw [hW]
    have hbW : Below w.heap.size w W := by rw [← hW]; go_grown
    obtain ⟨z0, z1, z2, z3, z4, -⟩ := cells5 (show W.heap[w.heap.size]? = _ by rw [← hW]; exact block_new w _)
    clear hW
    have HTW := Lib.hid (HT.out.below hbW)
    try have hx0a := cell_later hbW hx0
    try have hx1a := cell_later hbW hx1
    try have hx8a := cell_later hbW hx8
    try have p0a := cell_later hbW p0
    go_wp2_with (first | (go_at_call 28; refine (kinds_yes a n cap E hn [] _ _ [33] (by decide) _ (fun k hk => absurd hk (by simp)) (by simp) (HTW.out.below (by go_grown)) (NumsIn.nil _ _ _ (by omega)) (KsIn.new _ _ _)).mono ?_; rintro e w2 ⟨⟨r, rfl, hr⟩, hb2⟩; have hbw : Below w.heap.size w w2 := below_step (Nat.le_refl _) hbW (below_step (Nat.le_refl _) (by go_grown) hb2); have HR := Lib.hid hr; clear hr; have hx9 := cell_later hbw hx0; cases r) | (go_at_call 15; refine (expr_any a n cap E hn x _ hn_x (HT.out.below hbw)).mono ?_; rintro e w3 ⟨rfl, rfl⟩; rw [HD_x.out]; cases b_x))
    all_goals
      go_ret
      refine ⟨⟨_, rfl, fun h => ?_⟩, by first | exact hbw | exact hbW⟩
      first | (cases h; done) | exact .fieldp x HK.out (by rw [HF.out]; decide) hop rfl (of_decide_eq_true HD_x.out)
  · obtain ⟨ao, cp, rfl, hc1, hc2⟩ := hI.form
    change Calls _ _ #[_, _, .slice ao (l.length + 1 + 1) cp] _ _
    clear hI
    have d1 : ((l.length : Int) + 1 + 1 == 1) = false := by simp; omega
    have d2 : ¬ (l.length : Int) + 1 + 1 = 1 := by omega
    have d3 : ¬ (l.length : Int) + 1 + 1 < 1 := by omega
    go_enter Try.func29, Try.ntmps29
    go_upto_region 2 with fail
    obtain ⟨W, hW⟩ : ∃ W, w.alloc (.cells #[.int .i64 35, .int .i64 (E i).op, .string (E i).text, .int .i64 4, .int .i64 (E i).size] 28) = W := ⟨_, rfl⟩
    rw [hW]
    have hbW : Below w.heap.size w W := by rw [← hW]; go_grown
    obtain ⟨z0, z1, z2, z3, z4, -⟩ := cells5 (show W.heap[w.heap.size]? = _ by rw [← hW]; exact block_new w _)
    clear hW
    have HTW := Lib.hid (HT.out.below hbW)
    try have hx0a := cell_later hbW hx0
    try have hx1a := cell_later hbW hx1
    try have hx8a := cell_later hbW hx8
    try have p0a := cell_later hbW p0
    go_wp2_with fail
    all_goals
      go_ret
      refine ⟨⟨_, rfl, fun h => ?_⟩, by first | exact hbw | exact hbW⟩
      first | (cases h; done) | fail

set_option maxRecDepth 100000 in
set_option maxHeartbeats 1600000 in
theorem great_35_5 (a : Addr) (n cap : Nat) (E : Nat → Nd) (hn : n ≤ 400) (i : Nat) (l : List Nat) (lv : Value) (w : World) (hi : i < n) (hl : ∀ k ∈ l, k < n) (hln : l.length ≤ n) (ht : Lies w a n E) (hI : NumsIn w lv l) (hk : (E i).kind = 35) (hf : (E i).flag = 5) (hop : (E i).op ∈ [(0 : Int), 1, 2]) :
    Calls Try.prog 29 #[.slice (some a) n cap, .int .i64 i, lv] w fun e w' => Yes (Shape E (E i) l) e ∧ Below w.heap.size w w' := by
  have HK := Lib.hid hk
  obtain ⟨q0, q1, q2, q3, q4⟩ := ht i hi
  rw [hk] at q0
  rw [hf] at q3
  have HF := Lib.hid hf
  clear hf
  have hin : (i : Int) < n := by omega
  have HT := Lib.hid ht
  have HL := Lib.hid hl
  clear ht hl hk
  have t3 : bits BinOp.and IntKind.i64 5 3 = 1 := by kernel_rfl
  have t8 : bits BinOp.and IntKind.i64 5 8 = 0 := by kernel_rfl
  rcases l with _ | ⟨x, _ | ⟨y, l⟩⟩
  · obtain ⟨ao, cp, rfl, hc1, hc2⟩ := hI.form
    change Calls _ _ #[_, _, .slice ao 0 cp] _ _
    clear hI hc1
    go_enter Try.func29, Try.ntmps29
    go_upto_region 2 with fail
    obtain ⟨W, hW⟩ : ∃ W, w.alloc (.cells #[.int .i64 35, .int .i64 (E i).op, .string (E i).text, .int .i64 5, .int .i64 (E i).size] 28) = W := ⟨_, rfl⟩
    rw [hW]
    have hbW : Below w.heap.size w W := by rw [← hW]; go_grown
    obtain ⟨z0, z1, z2, z3, z4, -⟩ := cells5 (show W.heap[w.heap.size]? = _ by rw [← hW]; exact block_new w _)
    clear hW
    have HTW := Lib.hid (HT.out.below hbW)
    try have hx0a := cell_later hbW hx0
    try have hx1a := cell_later hbW hx1
    try have hx8a := cell_later hbW hx8
    try have p0a := cell_later hbW p0
    go_wp2_with fail
    all_goals
      go_ret
      refine ⟨⟨_, rfl, fun h => ?_⟩, by first | exact hbw | exact hbW⟩
      first | (cases h; done) | fail
  · have HI := Lib.hid hI
    obtain ⟨ao, cp, rfl, hc1, hc2⟩ := hI.form
    obtain ⟨g, o, rfl, hx0⟩ := hI.get (i := 0) rfl
    simp only [Nat.add_zero] at hx0
    change Calls _ _ #[_, _, .slice (some ⟨g, o, none⟩) 1 cp] _ _
    have hc1' : 1 ≤ cp := hc1
    clear hI hc1
    have hn_x := HL.out x (by simp)
    have hi_x : (x : Int) < n := by omega
    obtain ⟨b_x, hb_x⟩ : ∃ b, decide (ex (E x)) = b := ⟨_, rfl⟩
    have HD_x := Lib.hid hb_x
    clear hb_x
    go_enter Try.func29, Try.ntmps29
    go_upto_region 2 with fail
    obtain ⟨W, hW⟩ : ∃ W, w.alloc (.cells #[.int .i64 35, .int .i64 (E i).op, .string (E i).text, .int .i64 5, .int .i64 (E i).size] 28) = W := ⟨_, rfl⟩
    rw [hW]
    have hbW : Below w.heap.size w W := by rw [← hW]; go_grown
    obtain ⟨z0, z1, z2, z3, z4, -⟩ := cells5 (show W.heap[w.heap.size]? = _ by rw [← hW]; exact block_new w _)
    clear hW
    have HTW := Lib.hid (HT.out.below hbW)
    try have hx0a := cell_later hbW hx0
    try have hx1a := cell_later hbW hx1
    try have hx8a := cell_later hbW hx8
    try have p0a := cell_later hbW p0
    go_wp2_with (first | (go_at_call 28; refine (kinds_yes a n cap E hn [] _ _ [33] (by decide) _ (fun k hk => absurd hk (by simp)) (by simp) (HTW.out.below (by go_grown)) (NumsIn.nil _ _ _ (by omega)) (KsIn.new _ _ _)).mono ?_; rintro e w2 ⟨⟨r, rfl, hr⟩, hb2⟩; have hbw : Below w.heap.size w w2 := below_step (Nat.le_refl _) hbW (below_step (Nat.le_refl _) (by go_grown) hb2); have HR := Lib.hid hr; clear hr; have hx9 := cell_later hbw hx0; cases r) | (go_at_call 15; refine (expr_any a n cap E hn x _ hn_x (HT.out.below hbw)).mono ?_; rintro e w3 ⟨rfl, rfl⟩; rw [HD_x.out]; cases b_x))
    all_goals
      go_ret
      refine ⟨⟨_, rfl, fun h => ?_⟩, by first | exact hbw | exact hbW⟩
      first | (cases h; done) | exact .fieldp x HK.out (by rw [HF.out]; decide) hop rfl (of_decide_eq_true HD_x.out)
  · obtain ⟨ao, cp, rfl, hc1, hc2⟩ := hI.form
    change Calls _ _ #[_, _, .slice ao (l.length + 1 + 1) cp] _ _
    clear hI
    have d1 : ((l.length : Int) + 1 + 1 == 1) = false := by simp; omega
    have d2 : ¬ (l.length : Int) + 1 + 1 = 1 := by omega
    have d3 : ¬ (l.length : Int) + 1 + 1 < 1 := by omega
    go_enter Try.func29, Try.ntmps29
    go_upto_region 2 with fail
    obtain ⟨W, hW⟩ : ∃ W, w.alloc (.cells #[.int .i64 35, .int .i64 (E i).op, .string (E i).text, .int .i64 5, .int .i64 (E i).size] 28) = W := ⟨_, rfl⟩
    rw [hW]
    have hbW : Below w.heap.size w W := by rw [← hW]; go_grown
    obtain ⟨z0, z1, z2, z3, z4, -⟩ := cells5 (show W.heap[w.heap.size]? = _ by rw [← hW]; exact block_new w _)
    clear hW
    have HTW := Lib.hid (HT.out.below hbW)
    try have hx0a := cell_later hbW hx0
    try have hx1a := cell_later hbW hx1
    try have hx8a := cell_later hbW hx8
    try have p0a := cell_later hbW p0
    go_wp2_with fail
    all_goals
      go_ret
      refine ⟨⟨_, rfl, fun h => ?_⟩, by first | exact hbw | exact hbW⟩
      first | (cases h; done) | fail

set_option maxRecDepth 100000 in
set_option maxHeartbeats 1600000 in
theorem great_35_8 (a : Addr) (n cap : Nat) (E : Nat → Nd) (hn : n ≤ 400) (i : Nat) (l : List Nat) (lv : Value) (w : World) (hi : i < n) (hl : ∀ k ∈ l, k < n) (hln : l.length ≤ n) (ht : Lies w a n E) (hI : NumsIn w lv l) (hk : (E i).kind = 35) (hf : (E i).flag = 8) (hop : (E i).op ∈ [(0 : Int), 1, 2]) :
    Calls Try.prog 29 #[.slice (some a) n cap, .int .i64 i, lv] w fun e w' => Yes (Shape E (E i) l) e ∧ Below w.heap.size w w' := by
  have HK := Lib.hid hk
  obtain ⟨q0, q1, q2, q3, q4⟩ := ht i hi
  rw [hk] at q0
  rw [hf] at q3
  have HF := Lib.hid hf
  clear hf
  have hin : (i : Int) < n := by omega
  have HT := Lib.hid ht
  have HL := Lib.hid hl
  clear ht hl hk
  have t3 : bits BinOp.and IntKind.i64 8 3 = 0 := by kernel_rfl
  have t8 : bits BinOp.and IntKind.i64 8 8 = 8 := by kernel_rfl
  rcases snoc_cases l with rfl | ⟨l, x, rfl⟩
  · obtain ⟨ao, cp, rfl, hc1, hc2⟩ := hI.form
    change Calls _ _ #[_, _, .slice ao 0 cp] _ _
    clear hI hc1
    go_enter Try.func29, Try.ntmps29
    go_upto_region 2 with fail
    obtain ⟨W, hW⟩ : ∃ W, w.alloc (.cells #[.int .i64 35, .int .i64 (E i).op, .string (E i).text, .int .i64 8, .int .i64 (E i).size] 28) = W := ⟨_, rfl⟩
    rw [hW]
    have hbW : Below w.heap.size w W := by rw [← hW]; go_grown
    obtain ⟨z0, z1, z2, z3, z4, -⟩ := cells5 (show W.heap[w.heap.size]? = _ by rw [← hW]; exact block_new w _)
    clear hW
    have HTW := Lib.hid (HT.out.below hbW)
    try have hx0a := cell_later hbW hx0
    try have hx1a := cell_later hbW hx1
    try have hx8a := cell_later hbW hx8
    try have p0a := cell_later hbW p0
    go_wp2_with fail
    all_goals
      go_ret
      refine ⟨⟨_, rfl, fun h => ?_⟩, by first | exact hbw | exact hbW⟩
      first | (cases h; done) | fail
  · obtain ⟨g, o, cp, rfl, hc1, hc2, hx0, hI2⟩ := hI.snoc
    have HI2 := Lib.hid hI2
    clear hI hI2
    simp only [List.length_append, List.length_cons, List.length_nil, Nat.zero_add] at hln
    have hlb : l.length ≤ 400 := by omega
    have e1 : (l.length : Int) + 1 - 1 = l.length := by omega
    have g1 : 1 ≤ (l.length : Int) + 1 := by omega
    have hn_x := HL.out x (by simp)
    have hi_x : (x : Int) < n := by omega
    obtain ⟨b_x, hb_x⟩ : ∃ b, decide (ex (E x)) = b := ⟨_, rfl⟩
    have HD_x := Lib.hid hb_x
    clear hb_x
    have g3 : ¬ (l.length : Int) + 1 < 1 := by omega
    go_enter Try.func29, Try.ntmps29
    go_upto_region 2 with fail
    obtain ⟨W, hW⟩ : ∃ W, w.alloc (.cells #[.int .i64 35, .int .i64 (E i).op, .string (E i).text, .int .i64 8, .int .i64 (E i).size] 28) = W := ⟨_, rfl⟩
    rw [hW]
    have hbW : Below w.heap.size w W := by rw [← hW]; go_grown
    obtain ⟨z0, z1, z2, z3, z4, -⟩ := cells5 (show W.heap[w.heap.size]? = _ by rw [← hW]; exact block_new w _)
    clear hW
    have HTW := Lib.hid (HT.out.below hbW)
    try have hx0a := cell_later hbW hx0
    try have hx1a := cell_later hbW hx1
    try have hx8a := cell_later hbW hx8
    try have p0a := cell_later hbW p0
    go_wp2_with (first | (go_at_call 28; refine (kinds_yes a n cap E hn l _ _ [33] (by decide) _ (fun k hk => HL.out k (List.mem_append_left _ hk)) (by omega) (HTW.out.below (by go_grown)) ((HI2.out.below hbW).below (by go_grown)) (KsIn.new _ _ _)).mono ?_; rintro e w2 ⟨⟨r, rfl, hr⟩, hb2⟩; have hbw : Below w.heap.size w w2 := below_step (Nat.le_refl _) hbW (below_step (Nat.le_refl _) (by go_grown) hb2); have HR := Lib.hid hr; clear hr; have hx9 := cell_later hbw hx0; cases r) | (go_at_call 15; refine (expr_any a n cap E hn x _ hn_x (HT.out.below hbw)).mono ?_; rintro e w3 ⟨rfl, rfl⟩; rw [HD_x.out]; cases b_x))
    all_goals
      go_ret
      refine ⟨⟨_, rfl, fun h => ?_⟩, by first | exact hbw | exact hbW⟩
      first | (cases h; done) | exact .fieldm l HK.out (by rw [HF.out]; decide) hop ⟨l, x, rfl, fun j hj => by simpa using HR.out (by first | rfl | trivial) j hj, of_decide_eq_true HD_x.out⟩
end Go.Proofs.Ytkpfbgeaodopoaa.fnDirect
