/-
  FnDirect: the recogniser: nodes with kids of several sorts.
-/
import Derived.Test.YtkpfbgeaodopoaaDirShapeA
import Derived.Test.YtkpfbgeaodopoaaDirBare
namespace Go.Proofs.Ytkpfbgeaodopoaa.fnDirect
open Go.RowKit
set_option linter.unusedSimpArgs false
set_option linter.unusedVariables false

set_option maxRecDepth 100000 in
set_option maxHeartbeats 1600000 in
theorem great_35_9 (a : Addr) (n cap : Nat) (E : Nat → Nd) (hn : n ≤ 400) (i : Nat) (l : List Nat) (lv : Value) (w : World) (hi : i < n) (hl : ∀ k ∈ l, k < n) (hln : l.length ≤ n) (ht : Lies w a n E) (hI : NumsIn w lv l) (hk : (E i).kind = 35) (hf : (E i).flag = 9) (hop : (E i).op ∈ [(0 : Int), 1, 2]) :
    Calls Try.prog 29 #[.slice (some a) n cap, .int .i64 i, lv] w fun e w' => Yes (Shape E (E i) l) e ∧ Below w.heap.size w w' := by
  have HK := Lib.hid hk
  obtain ⟨q0, q1, q2, q3, q4⟩ := ht i hi
  rw [hk] at q0
  rw [hf] at q3
  have HF := Lib.hid hf
  clear hf
  have hin : (i : Int) < n := by omega
  have HT := Lib.hid ht
  have HL := Lib.hid hl
  clear ht hl hk
  have t3 : bits BinOp.and IntKind.i64 9 3 = 1 := by kernel_rfl
  have t8 : bits BinOp.and IntKind.i64 9 8 = 8 := by kernel_rfl
  rcases snoc_cases l with rfl | ⟨l, x, rfl⟩
  · obtain ⟨ao, cp, rfl, hc1, hc2⟩ := hI.form
    change Calls _ _ #[_, _, .slice ao 0 cp] _ _
    clear hI hc1
    go_enter Try.func29, Try.ntmps29
    go_upto_region 2 with fail
    obtain ⟨W, hW⟩ : ∃ W, w.alloc (.cells #[.int .i64 35, .int .i64 (E i).op, .string (E i).text, .int .i64 9, .int .i64 (E i).size] 28) = W := ⟨_, rfl⟩
    rw [hW]
    have hbW : Below w.heap.size w W := by rw [← hW]; go_grown
    obtain ⟨z0, z1, z2, z3, z4, -⟩ := cells5 (show W.heap[w.heap.size]? = _ by rw [← hW]; exact block_new w _)
    clear hW
    have HTW := Lib.hid (HT.out.below hbW)
    try have hx0a := cell_later hbW hx0
    try have hx1a := cell_later hbW hx1
    try have hx8a := cell_later hbW hx8
    try have p0a := cell_later hbW p0
    go_wp2_with fail
    all_goals
      go_ret
      refine ⟨⟨_, rfl, fun h => ?_⟩, by first | exact hbw | exact hbW⟩
      first | (cases h; done) | fail
  · obtain ⟨g, o, cp, rfl, hc1, hc2, hx0, hI2⟩ := hI.snoc
    have HI2 := Lib.hid hI2
    clear hI hI2
    simp only [List.length_append, List.length_cons, List.length_nil, Nat.zero_add] at hln
    have hlb : l.length ≤ 400 := by omega
    have e1 : (l.length : Int) + 1 - 1 = l.length := by omega
    have g1 : 1 ≤ (l.length : Int) + 1 := by omega
    have hn_x := HL.out x (by simp)
    have hi_x : (x : Int) < n := by omega
    obtain ⟨b_x, hb_x⟩ : ∃ b, decide (ex (E x)) = b := ⟨_, rfl⟩
    have HD_x := Lib.hid hb_x
    clear hb_x
    have g3 : ¬ (l.length : Int) + 1 < 1 := by omega
    go_enter Try.func29, Try.ntmps29
    go_upto_region 2 with fail
    obtain ⟨W, hW⟩ : ∃ W, w.alloc (.cells #[.int .i64 35, .int .i64 (E i).op, .string (E i).text, .int .i64 9, .int .i64 (E i).size] 28) = W := ⟨_, rfl⟩
    rw [hW]
    have hbW : Below w.heap.size w W := by rw [← hW]; go_grown
    obtain ⟨z0, z1, z2, z3, z4, -⟩ := cells5 (show W.heap[w.heap.size]? = _ by rw [← hW]; exact block_new w _)
    clear hW
    have HTW := Lib.hid (HT.out.below hbW)
    try have hx0a := cell_later hbW hx0
    try have hx1a := cell_later hbW hx1
    try have hx8a := cell_later hbW hx8
    try have p0a := cell_later hbW p0
    go_wp2_with (first | (go_at_call 28; refine (kinds_yes a n cap E hn l _ _ [33] (by decide) _ (fun k hk => HL.out k (List.mem_append_left _ hk)) (by omega) (HTW.out.below (by go_grown)) ((HI2.out.below hbW).below (by go_grown)) (KsIn.new _ _ _)).mono ?_; rintro e w2 ⟨⟨r, rfl, hr⟩, hb2⟩; have hbw : Below w.heap.size w w2 := below_step (Nat.le_refl _) hbW (below_step (Nat.le_refl _) (by go_grown) hb2); have HR := Lib.hid hr; clear hr; have hx9 := cell_later hbw hx0; cases r) | (go_at_call 15; refine (expr_any a n cap E hn x _ hn_x (HT.out.below hbw)).mono ?_; rintro e w3 ⟨rfl, rfl⟩; rw [HD_x.out]; cases b_x))
    all_goals
      go_ret
      refine ⟨⟨_, rfl, fun h => ?_⟩, by first | exact hbw | exact hbW⟩
      first | (cases h; done) | exact .fieldm l HK.out (by rw [HF.out]; decide) hop ⟨l, x, rfl, fun j hj => by simpa using HR.out (by first | rfl | trivial) j hj, of_decide_eq_true HD_x.out⟩

set_option maxRecDepth 100000 in
set_option maxHeartbeats 1600000 in
theorem great_35_10 (a : Addr) (n cap : Nat) (E : Nat → Nd) (hn : n ≤ 400) (i : Nat) (l : List Nat) (lv : Value) (w : World) (hi : i < n) (hl : ∀ k ∈ l, k < n) (hln : l.length ≤ n) (ht : Lies w a n E) (hI : NumsIn w lv l) (hk : (E i).kind = 35) (hf : (E i).flag = 10) (hop : (E i).op ∈ [(0 : Int), 1, 2]) :
    Calls Try.prog 29 #[.slice (some a) n cap, .int .i64 i, lv] w fun e w' => Yes (Shape E (E i) l) e ∧ Below w.heap.size w w' := by
  have HK := Lib.hid hk
  obtain ⟨q0, q1, q2, q3, q4⟩ := ht i hi
  rw [hk] at q0
  rw [hf] at q3
  have HF := Lib.hid hf
  clear hf
  have hin : (i : Int) < n := by omega
  have HT := Lib.hid ht
  have HL := Lib.hid hl
  clear ht hl hk
  have t3 : bits BinOp.and IntKind.i64 10 3 = 2 := by kernel_rfl
  have t8 : bits BinOp.and IntKind.i64 10 8 = 8 := by kernel_rfl
  rcases l with _ | ⟨y, l⟩
  · obtain ⟨ao, cp, rfl, hc1, hc2⟩ := hI.form
    change Calls _ _ #[_, _, .slice ao 0 cp] _ _
    clear hI hc1
    go_enter Try.func29, Try.ntmps29
    go_upto_region 2 with fail
    obtain ⟨W, hW⟩ : ∃ W, w.alloc (.cells #[.int .i64 35, .int .i64 (E i).op, .string (E i).text, .int .i64 10, .int .i64 (E i).size] 28) = W := ⟨_, rfl⟩
    rw [hW]
    have hbW : Below w.heap.size w W := by rw [← hW]; go_grown
    obtain ⟨z0, z1, z2, z3, z4, -⟩ := cells5 (show W.heap[w.heap.size]? = _ by rw [← hW]; exact block_new w _)
    clear hW
    have HTW := Lib.hid (HT.out.below hbW)
    try have hx0a := cell_later hbW hx0
    try have hx1a := cell_later hbW hx1
    try have hx8a := cell_later hbW hx8
    try have p0a := cell_later hbW p0
    go_wp2_with fail
    all_goals
      go_ret
      refine ⟨⟨_, rfl, fun h => ?_⟩, by first | exact hbw | exact hbW⟩
      first | (cases h; done) | fail
  rcases snoc_cases l with rfl | ⟨l, x, rfl⟩
  · have HI := Lib.hid hI
    obtain ⟨ao, cp, rfl, hc1, hc2⟩ := hI.form
    obtain ⟨g, o, rfl, hx0⟩ := hI.get (i := 0) rfl
    simp only [Nat.add_zero] at hx0
    change Calls _ _ #[_, _, .slice (some ⟨g, o, none⟩) 1 cp] _ _
    have hc1' : 1 ≤ cp := hc1
    clear hI hc1
    have hn_y := HL.out y (by simp)
    have hi_y : (y : Int) < n := by omega
    obtain ⟨b_y, hb_y⟩ : ∃ b, decide (ex (E y)) = b := ⟨_, rfl⟩
    have HD_y := Lib.hid hb_y
    clear hb_y
    go_enter Try.func29, Try.ntmps29
    go_upto_region 2 with fail
    obtain ⟨W, hW⟩ : ∃ W, w.alloc (.cells #[.int .i64 35, .int .i64 (E i).op, .string (E i).text, .int .i64 10, .int .i64 (E i).size] 28) = W := ⟨_, rfl⟩
    rw [hW]
    have hbW : Below w.heap.size w W := by rw [← hW]; go_grown
    obtain ⟨z0, z1, z2, z3, z4, -⟩ := cells5 (show W.heap[w.heap.size]? = _ by rw [← hW]; exact block_new w _)
    clear hW
    have HTW := Lib.hid (HT.out.below hbW)
    try have hx0a := cell_later hbW hx0
    try have hx1a := cell_later hbW hx1
    try have hx8a := cell_later hbW hx8
    try have p0a := cell_later hbW p0
    go_wp2_with fail
    all_goals
      go_ret
      refine ⟨⟨_, rfl, fun h => ?_⟩, by first | exact hbw | exact hbW⟩
      first | (cases h; done) | fail
  · have HI0 := Lib.hid hI
    obtain ⟨g, o, cp, rfl, hc1, hc2, hx8, hI2⟩ := hI.cons
    have HI3 := Lib.hid hI2
    clear hI
    obtain ⟨g', o', cp', he, hc3, hc4, hx0, hI4⟩ := hI2.snoc
    simp only [Value.slice.injEq, Option.some.injEq, Addr.mk.injEq, and_true] at he
    obtain ⟨⟨rfl, rfl⟩, -, rfl⟩ := he
    have HI2 := Lib.hid hI4
    simp only [List.length_append, List.length_cons, List.length_nil, Nat.zero_add] at hln
    have hlb : l.length ≤ 400 := by omega
    clear hI2 hI4 HI3
    have hn_y := HL.out y (by simp)
    have hi_y : (y : Int) < n := by omega
    obtain ⟨b_y, hb_y⟩ : ∃ b, decide (ex (E y)) = b := ⟨_, rfl⟩
    have HD_y := Lib.hid hb_y
    clear hb_y
    have hn_x := HL.out x (by simp)
    have hi_x : (x : Int) < n := by omega
    obtain ⟨b_x, hb_x⟩ : ∃ b, decide (ex (E x)) = b := ⟨_, rfl⟩
    have HD_x := Lib.hid hb_x
    clear hb_x
    simp only [List.length_append, List.length_cons, List.length_nil, Nat.zero_add] at hc1
    have hz0 : (y :: (l ++ [x])).length = l.length + 1 + 1 := by simp
    change Calls _ _ #[_, _, .slice (some ⟨g, o, none⟩) ((l ++ [x]).length + 1) cp] _ _
    rw [List.length_append, List.length_singleton]
    have hcp : ¬ cp = 1 := by omega
    have g1 : ¬ (l.length : Int) + 1 + 1 < 2 := by omega
    have e1 : (l.length : Int) + 1 + 1 - 1 = l.length + 1 := by omega
    have e2 : ((l.length : Int) + 1).toNat = l.length + 1 := by omega
    have e3 : 0 ≤ (l.length : Int) + 1 := by omega
    have e4 : 1 ≤ (l.length : Int) + 1 := by omega
    have e5 : o + (l.length + 1) = o + 1 + l.length := by omega
    rw [← e5] at hx0
    clear e5
    go_enter Try.func29, Try.ntmps29
    go_upto_region 2 with fail
    obtain ⟨W, hW⟩ : ∃ W, w.alloc (.cells #[.int .i64 35, .int .i64 (E i).op, .string (E i).text, .int .i64 10, .int .i64 (E i).size] 28) = W := ⟨_, rfl⟩
    rw [hW]
    have hbW : Below w.heap.size w W := by rw [← hW]; go_grown
    obtain ⟨z0, z1, z2, z3, z4, -⟩ := cells5 (show W.heap[w.heap.size]? = _ by rw [← hW]; exact block_new w _)
    clear hW
    have HTW := Lib.hid (HT.out.below hbW)
    try have hx0a := cell_later hbW hx0
    try have hx1a := cell_later hbW hx1
    try have hx8a := cell_later hbW hx8
    try have p0a := cell_later hbW p0
    go_wp2_with (first | (go_at_call 15; refine (expr_any a n cap E hn x _ hn_x (HT.out.below hbw)).mono ?_; rintro e w3 ⟨rfl, rfl⟩; rw [HD_x.out]; cases b_x) | (go_at_call 28; refine (kinds_yes a n cap E hn l _ _ [33] (by decide) _ (fun k hk => HL.out k (List.mem_cons_of_mem _ (List.mem_append_left _ hk))) (by omega) (HTW.out.below (by go_grown)) ((HI2.out.below hbW).below (by go_grown)) (KsIn.new _ _ _)).mono ?_; rintro e w2 ⟨⟨r, rfl, hr⟩, hb2⟩; have hbw : Below w.heap.size w w2 := below_step (Nat.le_refl _) hbW (below_step (Nat.le_refl _) (by go_grown) hb2); have HR := Lib.hid hr; clear hr; have hx9 := cell_later hbw hx0; cases r) | (go_at_call 15; refine (expr_any a n cap E hn y _ hn_y HTW.out).mono ?_; rintro e w3 ⟨rfl, rfl⟩; rw [HD_y.out]; cases b_y))
    all_goals
      go_ret
      refine ⟨⟨_, rfl, fun h => ?_⟩, by first | exact hbw | exact hbW⟩
      first | (cases h; done) | exact .fieldem y (l ++ [x]) HK.out HF.out hop rfl (of_decide_eq_true HD_y.out) ⟨l, x, rfl, fun j hj => by simpa using HR.out (by first | rfl | trivial) j hj, of_decide_eq_true HD_x.out⟩

set_option maxRecDepth 100000 in
set_option maxHeartbeats 1600000 in
theorem great_35_2 (a : Addr) (n cap : Nat) (E : Nat → Nd) (hn : n ≤ 400) (i : Nat) (l : List Nat) (lv : Value) (w : World) (hi : i < n) (hl : ∀ k ∈ l, k < n) (hln : l.length ≤ n) (ht : Lies w a n E) (hI : NumsIn w lv l) (hk : (E i).kind = 35) (hf : (E i).flag = 2) (hop : (E i).op ∈ [(0 : Int), 1, 2]) :
    Calls Try.prog 29 #[.slice (some a) n cap, .int .i64 i, lv] w fun e w' => Yes (Shape E (E i) l) e ∧ Below w.heap.size w w' := by
  have HK := Lib.hid hk
  obtain ⟨q0, q1, q2, q3, q4⟩ := ht i hi
  rw [hk] at q0
  rw [hf] at q3
  have HF := Lib.hid hf
  clear hf
  have hin : (i : Int) < n := by omega
  have HT := Lib.hid ht
  have HL := Lib.hid hl
  clear ht hl hk
  have t3 : bits BinOp.and IntKind.i64 2 3 = 2 := by kernel_rfl
  have t8 : bits BinOp.and IntKind.i64 2 8 = 0 := by kernel_rfl
  rcases l with _ | ⟨y, _ | ⟨x, _ | ⟨z, l⟩⟩⟩
  · obtain ⟨ao, cp, rfl, hc1, hc2⟩ := hI.form
    change Calls _ _ #[_, _, .slice ao 0 cp] _ _
    clear hI hc1
    go_enter Try.func29, Try.ntmps29
    go_upto_region 2 with fail
    obtain ⟨W, hW⟩ : ∃ W, w.alloc (.cells #[.int .i64 35, .int .i64 (E i).op, .string (E i).text, .int .i64 2, .int .i64 (E i).size] 28) = W := ⟨_, rfl⟩
    rw [hW]
    have hbW : Below w.heap.size w W := by rw [← hW]; go_grown
    obtain ⟨z0, z1, z2, z3, z4, -⟩ := cells5 (show W.heap[w.heap.size]? = _ by rw [← hW]; exact block_new w _)
    clear hW
    have HTW := Lib.hid (HT.out.below hbW)
    try have hx0a := cell_later hbW hx0
    try have hx1a := cell_later hbW hx1
    try have hx8a := cell_later hbW hx8
    try have p0a := cell_later hbW p0
    go_wp2_with fail
    all_goals
      go_ret
      refine ⟨⟨_, rfl, fun h => ?_⟩, by first | exact hbw | exact hbW⟩
      first | (cases h; done) | fail
  · have HI := Lib.hid hI
    obtain ⟨ao, cp, rfl, hc1, hc2⟩ := hI.form
    obtain ⟨g, o, rfl, hx0⟩ := hI.get (i := 0) rfl
    simp only [Nat.add_zero] at hx0
    change Calls _ _ #[_, _, .slice (some ⟨g, o, none⟩) 1 cp] _ _
    have hc1' : 1 ≤ cp := hc1
    clear hI hc1
    have hn_y := HL.out y (by simp)
    have hi_y : (y : Int) < n := by omega
    obtain ⟨b_y, hb_y⟩ : ∃ b, decide (ex (E y)) = b := ⟨_, rfl⟩
    have HD_y := Lib.hid hb_y
    clear hb_y
    go_enter Try.func29, Try.ntmps29
    go_upto_region 2 with fail
    obtain ⟨W, hW⟩ : ∃ W, w.alloc (.cells #[.int .i64 35, .int .i64 (E i).op, .string (E i).text, .int .i64 2, .int .i64 (E i).size] 28) = W := ⟨_, rfl⟩
    rw [hW]
    have hbW : Below w.heap.size w W := by rw [← hW]; go_grown
    obtain ⟨z0, z1, z2, z3, z4, -⟩ := cells5 (show W.heap[w.heap.size]? = _ by rw [← hW]; exact block_new w _)
    clear hW
    have HTW := Lib.hid (HT.out.below hbW)
    try have hx0a := cell_later hbW hx0
    try have hx1a := cell_later hbW hx1
    try have hx8a := cell_later hbW hx8
    try have p0a := cell_later hbW p0
    go_wp2_with fail
    all_goals
      go_ret
      refine ⟨⟨_, rfl, fun h => ?_⟩, by first | exact hbw | exact hbW⟩
      first | (cases h; done) | fail
  · have HI := Lib.hid hI
    obtain ⟨ao, cp, rfl, hc1, hc2⟩ := hI.form
    obtain ⟨g, o, rfl, hx0⟩ := hI.get (i := 0) rfl
    obtain ⟨g', o', he, hx1⟩ := hI.get (i := 1) rfl
    cases he
    simp only [Nat.add_zero] at hx0
    change Calls _ _ #[_, _, .slice (some ⟨g, o, none⟩) 2 cp] _ _
    have hc1' : 2 ≤ cp := hc1
    clear hI hc1
    have hn_y := HL.out y (by simp)
    have hi_y : (y : Int) < n := by omega
    obtain ⟨b_y, hb_y⟩ : ∃ b, decide (ex (E y)) = b := ⟨_, rfl⟩
    have HD_y := Lib.hid hb_y
    clear hb_y
    have hn_x := HL.out x (by simp)
    have hi_x : (x : Int) < n := by omega
    obtain ⟨b_x, hb_x⟩ : ∃ b, decide (ex (E x)) = b := ⟨_, rfl⟩
    have HD_x := Lib.hid hb_x
    clear hb_x
    have hcp : ¬ cp = 1 := by omega
    have hcm : cp - 1 ≤ maxLen := Nat.le_trans (Nat.sub_le _ _) hc2
    go_enter Try.func29, Try.ntmps29
    go_upto_region 2 with fail
    obtain ⟨W, hW⟩ : ∃ W, w.alloc (.cells #[.int .i64 35, .int .i64 (E i).op, .string (E i).text, .int .i64 2, .int .i64 (E i).size] 28) = W := ⟨_, rfl⟩
    rw [hW]
    have hbW : Below w.heap.size w W := by rw [← hW]; go_grown
    obtain ⟨z0, z1, z2, z3, z4, -⟩ := cells5 (show W.heap[w.heap.size]? = _ by rw [← hW]; exact block_new w _)
    clear hW
    have HTW := Lib.hid (HT.out.below hbW)
    try have hx0a := cell_later hbW hx0
    try have hx1a := cell_later hbW hx1
    try have hx8a := cell_later hbW hx8
    try have p0a := cell_later hbW p0
    go_wp2_with (first | (go_at_call 15; refine (expr_any a n cap E hn x _ hn_x (HT.out.below hbw)).mono ?_; rintro e w3 ⟨rfl, rfl⟩; rw [HD_x.out]; cases b_x) | (go_at_call 28; refine (kinds_yes a n cap E hn [] _ _ [33] (by decide) _ (fun k hk => absurd hk (by simp)) (by simp) (HTW.out.below (by go_grown)) (NumsIn.nil _ _ _ hcm) (KsIn.new _ _ _)).mono ?_; rintro e w2 ⟨⟨r, rfl, hr⟩, hb2⟩; have hbw : Below w.heap.size w w2 := below_step (Nat.le_refl _) hbW (below_step (Nat.le_refl _) (by go_grown) hb2); have HR := Lib.hid hr; clear hr; have hx9 := cell_later hbw hx1; cases r) | (go_at_call 15; refine (expr_any a n cap E hn y _ hn_y HTW.out).mono ?_; rintro e w3 ⟨rfl, rfl⟩; rw [HD_y.out]; cases b_y))
    all_goals
      go_ret
      refine ⟨⟨_, rfl, fun h => ?_⟩, by first | exact hbw | exact hbW⟩
      first | (cases h; done) | exact .fieldep y x HK.out (by rw [HF.out]; decide) hop rfl (of_decide_eq_true HD_y.out) (of_decide_eq_true HD_x.out)
  · have HI0 := Lib.hid hI
    obtain ⟨g, o, cp, rfl, hc1, hc2, hx0, hI2⟩ := hI.cons
    have HI2 := Lib.hid hI2
    clear hI hI2
    have hn_y := HL.out y (by simp)
    have hi_y : (y : Int) < n := by omega
    obtain ⟨b_y, hb_y⟩ : ∃ b, decide (ex (E y)) = b := ⟨_, rfl⟩
    have HD_y := Lib.hid hb_y
    clear hb_y
    change Calls _ _ #[_, _, .slice (some ⟨g, o, none⟩) (l.length + 1 + 1 + 1) cp] _ _
    have d1 : ((l.length : Int) + 1 + 1 + 1 == 2) = false := by simp; omega
    have d2 : ¬ (l.length : Int) + 1 + 1 + 1 = 2 := by omega
    have d3 : ¬ (l.length : Int) + 1 + 1 + 1 < 2 := by omega
    go_enter Try.func29, Try.ntmps29
    go_upto_region 2 with fail
    obtain ⟨W, hW⟩ : ∃ W, w.alloc (.cells #[.int .i64 35, .int .i64 (E i).op, .string (E i).text, .int .i64 2, .int .i64 (E i).size] 28) = W := ⟨_, rfl⟩
    rw [hW]
    have hbW : Below w.heap.size w W := by rw [← hW]; go_grown
    obtain ⟨z0, z1, z2, z3, z4, -⟩ := cells5 (show W.heap[w.heap.size]? = _ by rw [← hW]; exact block_new w _)
    clear hW
    have HTW := Lib.hid (HT.out.below hbW)
    try have hx0a := cell_later hbW hx0
    try have hx1a := cell_later hbW hx1
    try have hx8a := cell_later hbW hx8
    try have p0a := cell_later hbW p0
    go_wp2_with (first | (go_at_call 15; refine (expr_any a n cap E hn y _ hn_y HTW.out).mono ?_; rintro e w3 ⟨rfl, rfl⟩; rw [HD_y.out]; cases b_y))
    all_goals
      go_ret
      refine ⟨⟨_, rfl, fun h => ?_⟩, by first | exact hbw | exact hbW⟩
      first | (cases h; done) | fail

set_option maxRecDepth 100000 in
set_option maxHeartbeats 1600000 in
theorem great_35_6 (a : Addr) (n cap : Nat) (E : Nat → Nd) (hn : n ≤ 400) (i : Nat) (l : List Nat) (lv : Value) (w : World) (hi : i < n) (hl : ∀ k ∈ l, k < n) (hln : l.length ≤ n) (ht : Lies w a n E) (hI : NumsIn w lv l) (hk : (E i).kind = 35) (hf : (E i).flag = 6) (hop : (E i).op ∈ [(0 : Int), 1, 2]) :
    Calls Try.prog 29 #[.slice (some a) n cap, .int .i64 i, lv] w fun e w' => Yes (Shape E (E i) l) e ∧ Below w.heap.size w w' := by
  have HK := Lib.hid hk
  obtain ⟨q0, q1, q2, q3, q4⟩ := ht i hi
  rw [hk] at q0
  rw [hf] at q3
  have HF := Lib.hid hf
  clear hf
  have hin : (i : Int) < n := by omega
  have HT := Lib.hid ht
  have HL := Lib.hid hl
  clear ht hl hk
  have t3 : bits BinOp.and IntKind.i64 6 3 = 2 := by kernel_rfl
  have t8 : bits BinOp.and IntKind.i64 6 8 = 0 := by kernel_rfl
  rcases l with _ | ⟨y, _ | ⟨x, _ | ⟨z, l⟩⟩⟩
  · obtain ⟨ao, cp, rfl, hc1, hc2⟩ := hI.form
    change Calls _ _ #[_, _, .slice ao 0 cp] _ _
    clear hI hc1
    go_enter Try.func29, Try.ntmps29
    go_upto_region 2 with fail
    obtain ⟨W, hW⟩ : ∃ W, w.alloc (.cells #[.int .i64 35, .int .i64 (E i).op, .string (E i).text, .int .i64 6, .int .i64 (E i).size] 28) = W := ⟨_, rfl⟩
    rw [hW]
    have hbW : Below w.heap.size w W := by rw [← hW]; go_grown
    obtain ⟨z0, z1, z2, z3, z4, -⟩ := cells5 (show W.heap[w.heap.size]? = _ by rw [← hW]; exact block_new w _)
    clear hW
    have HTW := Lib.hid (HT.out.below hbW)
    try have hx0a := cell_later hbW hx0
    try have hx1a := cell_later hbW hx1
    try have hx8a := cell_later hbW hx8
    try have p0a := cell_later hbW p0
    go_wp2_with fail
    all_goals
      go_ret
      refine ⟨⟨_, rfl, fun h => ?_⟩, by first | exact hbw | exact hbW⟩
      first | (cases h; done) | fail
  · have HI := Lib.hid hI
    obtain ⟨ao, cp, rfl, hc1, hc2⟩ := hI.form
    obtain ⟨g, o, rfl, hx0⟩ := hI.get (i := 0) rfl
    simp only [Nat.add_zero] at hx0
    change Calls _ _ #[_, _, .slice (some ⟨g, o, none⟩) 1 cp] _ _
    have hc1' : 1 ≤ cp := hc1
    clear hI hc1
    have hn_y := HL.out y (by simp)
    have hi_y : (y : Int) < n := by omega
    obtain ⟨b_y, hb_y⟩ : ∃ b, decide (ex (E y)) = b := ⟨_, rfl⟩
    have HD_y := Lib.hid hb_y
    clear hb_y
    go_enter Try.func29, Try.ntmps29
    go_upto_region 2 with fail
    obtain ⟨W, hW⟩ : ∃ W, w.alloc (.cells #[.int .i64 35, .int .i64 (E i).op, .string (E i).text, .int .i64 6, .int .i64 (E i).size] 28) = W := ⟨_, rfl⟩
    rw [hW]
    have hbW : Below w.heap.size w W := by rw [← hW]; go_grown
    obtain ⟨z0, z1, z2, z3, z4, -⟩ := cells5 (show W.heap[w.heap.size]? = _ by rw [← hW]; exact block_new w _)
    clear hW
    have HTW := Lib.hid (HT.out.below hbW)
    try have hx0a := cell_later hbW hx0
    try have hx1a := cell_later hbW hx1
    try have hx8a := cell_later hbW hx8
    try have p0a := cell_later hbW p0
    go_wp2_with fail
    all_goals
      go_ret
      refine ⟨⟨_, rfl, fun h => ?_⟩, by first | exact hbw | exact hbW⟩
      first | (cases h; done) | fail
  · have HI := Lib.hid hI
    obtain ⟨ao, cp, rfl, hc1, hc2⟩ := hI.form
    obtain ⟨g, o, rfl, hx0⟩ := hI.get (i := 0) rfl
    obtain ⟨g', o', he, hx1⟩ := hI.get (i := 1) rfl
    cases he
    simp only [Nat.add_zero] at hx0
    change Calls _ _ #[_, _, .slice (some ⟨g, o, none⟩) 2 cp] _ _
    have hc1' : 2 ≤ cp := hc1
    clear hI hc1
    have hn_y := HL.out y (by simp)
    have hi_y : (y : Int) < n := by omega
    obtain ⟨b_y, hb_y⟩ : ∃ b, decide (ex (E y)) = b := ⟨_, rfl⟩
    have HD_y := Lib.hid hb_y
    clear hb_y
    have hn_x := HL.out x (by simp)
    have hi_x : (x : Int) < n := by omega
    obtain ⟨b_x, hb_x⟩ : ∃ b, decide (ex (E x)) = b := ⟨_, rfl⟩
    have HD_x := Lib.hid hb_x
    clear hb_x
    have hcp : ¬ cp = 1 := by omega
    have hcm : cp - 1 ≤ maxLen := Nat.le_trans (Nat.sub_le _ _) hc2
    go_enter Try.func29, Try.ntmps29
    go_upto_region 2 with fail
    obtain ⟨W, hW⟩ : ∃ W, w.alloc (.cells #[.int .i64 35, .int .i64 (E i).op, .string (E i).text, .int .i64 6, .int .i64 (E i).size] 28) = W := ⟨_, rfl⟩
    rw [hW]
    have hbW : Below w.heap.size w W := by rw [← hW]; go_grown
    obtain ⟨z0, z1, z2, z3, z4, -⟩ := cells5 (show W.heap[w.heap.size]? = _ by rw [← hW]; exact block_new w _)
    clear hW
    have HTW := Lib.hid (HT.out.below hbW)
    try have hx0a := cell_later hbW hx0
    try have hx1a := cell_later hbW hx1
    try have hx8a := cell_later hbW hx8
    try have p0a := cell_later hbW p0
    go_wp2_with (first | (go_at_call 15; refine (expr_any a n cap E hn x _ hn_x (HT.out.below hbw)).mono ?_; rintro e w3 ⟨rfl, rfl⟩; rw [HD_x.out]; cases b_x) | (go_at_call 28; refine (kinds_yes a n cap E hn [] _ _ [33] (by decide) _ (fun k hk => absurd hk (by simp)) (by simp) (HTW.out.below (by go_grown)) (NumsIn.nil _ _ _ hcm) (KsIn.new _ _ _)).mono ?_; rintro e w2 ⟨⟨r, rfl, hr⟩, hb2⟩; have hbw : Below w.heap.size w w2 := below_step (Nat.le_refl _) hbW (below_step (Nat.le_refl _) (by go_grown) hb2); have HR := Lib.hid hr; clear hr; have hx9 := cell_later hbw hx1; cases r) | (go_at_call 15; refine (expr_any a n cap E hn y _ hn_y HTW.out).mono ?_; rintro e w3 ⟨rfl, rfl⟩; rw [HD_y.out]; cases b_y))
    all_goals
      go_ret
      refine ⟨⟨_, rfl, fun h => ?_⟩, by first | exact hbw | exact hbW⟩
      first | (cases h; done) | exact .fieldep y x HK.out (by rw [HF.out]; decide) hop rfl (of_decide_eq_true HD_y.out) (of_decide_eq_true HD_x.out)
  · have HI0 := Lib.hid hI
    obtain ⟨g, o, cp, rfl, hc1, hc2, hx0, hI2⟩ := hI.cons
    have HI2 := Lib.hid hI2
    clear hI hI2
    have hn_y := HL.out y (by simp)
    have hi_y : (y : Int) < n := by omega
    obtain ⟨b_y, hb_y⟩ : ∃ b, decide (ex (E y)) = b := ⟨_, rfl⟩
    have HD_y := Lib.hid hb_y
    clear hb_y
    change Calls _ _ #[_, _, .slice (some ⟨g, o, none⟩) (l.length + 1 + 1 + 1) cp] _ _
    have d1 : ((l.length : Int) + 1 + 1 + 1 == 2) = false := by simp; omega
    have d2 : ¬ (l.length : Int) + 1 + 1 + 1 = 2 := by omega
    have d3 : ¬ (l.length : Int) + 1 + 1 + 1 < 2 := by omega
    go_enter Try.func29, Try.ntmps29
    go_upto_region 2 with fail
    obtain ⟨W, hW⟩ : ∃ W, w.alloc (.cells #[.int .i64 35, .int .i64 (E i).op, .string (E i).text, .int .i64 6, .int .i64 (E i).size] 28) = W := ⟨_, rfl⟩
    rw [hW]
    have hbW : Below w.heap.size w W := by rw [← hW]; go_grown
    obtain ⟨z0, z1, z2, z3, z4, -⟩ := cells5 (show W.heap[w.heap.size]? = _ by rw [← hW]; exact block_new w _)
    clear hW
    have HTW := Lib.hid (HT.out.below hbW)
    try have hx0a := cell_later hbW hx0
    try have hx1a := cell_later hbW hx1
    try have hx8a := cell_later hbW hx8
    try have p0a := cell_later hbW p0
    go_wp2_with (first | (go_at_call 15; refine (expr_any a n cap E hn y _ hn_y HTW.out).mono ?_; rintro e w3 ⟨rfl, rfl⟩; rw [HD_y.out]; cases b_y))
    all_goals
      go_ret
      refine ⟨⟨_, rfl, fun h => ?_⟩, by first | exact hbw | exact hbW⟩
      first | (cases h; done) | fail

set_option maxRecDepth 100000 in
set_option maxHeartbeats 1600000 in
theorem great_other (a : Addr) (n cap : Nat) (E : Nat → Nd) (hn : n ≤ 400) (i : Nat) (l : List Nat) (lv : Value) (w : World) (hi : i < n) (hl : ∀ k ∈ l, k < n) (hln : l.length ≤ n) (ht : Lies w a n E) (hI : NumsIn w lv l) (hk : (E i).kind ∉ [(17 : Int), 29, 12, 13, 14, 19, 32, 20, 18, 35]) :
    Calls Try.prog 29 #[.slice (some a) n cap, .int .i64 i, lv] w fun e w' => Yes (Shape E (E i) l) e ∧ Below w.heap.size w w' := by
  obtain ⟨q0, q1, q2, q3, q4⟩ := ht i hi
  obtain ⟨ke, hke⟩ : ∃ ke, (E i).kind = ke := ⟨_, rfl⟩
  rw [hke] at q0 hk
  simp only [List.mem_cons, List.not_mem_nil, or_false, not_or] at hk
  obtain ⟨k17, k29, k12, k13, k14, k19, k32, k20, k18, k35⟩ := hk
  have d17 : (ke == 17) = false := by simpa using k17
  have d29 : (ke == 29) = false := by simpa using k29
  have d12 : (ke == 12) = false := by simpa using k12
  have d13 : (ke == 13) = false := by simpa using k13
  have d14 : (ke == 14) = false := by simpa using k14
  have d19 : (ke == 19) = false := by simpa using k19
  have d32 : (ke == 32) = false := by simpa using k32
  have d20 : (ke == 20) = false := by simpa using k20
  have d18 : (ke == 18) = false := by simpa using k18
  have d35 : (ke == 35) = false := by simpa using k35
  have hin : (i : Int) < n := by omega
  obtain ⟨ao, cp, rfl, hc1, hc2⟩ := hI.form
  have HT := Lib.hid ht
  clear hke hI ht hl
  go_enter Try.func29, Try.ntmps29
  go_upto_region 2 with fail
  obtain ⟨W, hW⟩ : ∃ W, w.alloc (.cells #[.int .i64 ke, .int .i64 (E i).op, .string (E i).text, .int .i64 (E i).flag, .int .i64 (E i).size] 28) = W := ⟨_, rfl⟩
  rw [hW]
  have hbW : Below w.heap.size w W := by rw [← hW]; go_grown
  obtain ⟨z0, z1, z2, z3, z4, -⟩ := cells5 (show W.heap[w.heap.size]? = _ by rw [← hW]; exact block_new w _)
  clear hW
  have HTW := Lib.hid (HT.out.below hbW)
  try have hx0a := cell_later hbW hx0
  try have hx1a := cell_later hbW hx1
  try have hx8a := cell_later hbW hx8
  try have p0a := cell_later hbW p0
  go_wp2_with fail
  all_goals
    go_ret
    refine ⟨⟨_, rfl, fun h => ?_⟩, by first | exact hbw | exact hbW⟩
    first | (cases h; done) | fail
end Go.Proofs.Ytkpfbgeaodopoaa.fnDirect
