/-
  FnDirect: the recogniser: nodes with kids of several sorts.
-/
import Derived.Test.YtkpfbgeaodopoaaDirShapeA
import Derived.Test.YtkpfbgeaodopoaaDirBare
namespace Go.Proofs.Ytkpfbgeaodopoaa.fnDirect
open Go.RowKit
set_option linter.unusedSimpArgs false
set_option linter.unusedVariables false

set_option maxRecDepth 100000 in
set_option maxHeartbeats 1600000 in
theorem great_19 (a : Addr) (n cap : Nat) (E : Nat → Nd) (hn : n ≤ 400) (i : Nat) (l : List Nat) (lv : Value) (w : World) (hi : i < n) (hl : ∀ k ∈ l, k < n) (hln : l.length ≤ n) (ht : Lies w a n E) (hI : NumsIn w lv l) (hk : (E i).kind = 19) :
    Calls Try.prog 29 #[.slice (some a) n cap, .int .i64 i, lv] w fun e w' => Yes (Shape E (E i) l) e ∧ Below w.heap.size w w' := by
  have HK := Lib.hid hk
  obtain ⟨q0, q1, q2, q3, q4⟩ := ht i hi
  rw [hk] at q0
  have hin : (i : Int) < n := by omega
  have HT := Lib.hid ht
  have HL := Lib.hid hl
  clear ht hl hk
  rcases snoc_cases l with rfl | ⟨l, x, rfl⟩
  · obtain ⟨ao, cp, rfl, hc1, hc2⟩ := hI.form
    change Calls _ _ #[_, _, .slice ao 0 cp] _ _
    clear hI hc1
    go_enter Try.func29, Try.ntmps29
    go_upto_region 2 with fail
    obtain ⟨W, hW⟩ : ∃ W, w.alloc (.cells #[.int .i64 19, .int .i64 (E i).op, .string (E i).text, .int .i64 (E i).flag, .int .i64 (E i).size] 28) = W := ⟨_, rfl⟩
    rw [hW]
    have hbW : Below w.heap.size w W := by rw [← hW]; go_grown
    obtain ⟨z0, z1, z2, z3, z4, -⟩ := cells5 (show W.heap[w.heap.size]? = _ by rw [← hW]; exact block_new w _)
    clear hW
    have HTW := Lib.hid (HT.out.below hbW)
    try have hx0a := cell_later hbW hx0
    try have hx1a := cell_later hbW hx1
    try have hx8a := cell_later hbW hx8
    try have p0a := cell_later hbW p0
    go_wp2_with fail
    all_goals
      go_ret
      refine ⟨⟨_, rfl, fun h => ?_⟩, by first | exact hbw | exact hbW⟩
      first | (cases h; done) | fail
  · obtain ⟨g, o, cp, rfl, hc1, hc2, hx0, hI2⟩ := hI.snoc
    have HI2 := Lib.hid hI2
    clear hI hI2
    simp only [List.length_append, List.length_cons, List.length_nil, Nat.zero_add] at hln
    have hlb : l.length ≤ 400 := by omega
    have e1 : (l.length : Int) + 1 - 1 = l.length := by omega
    have g1 : 1 ≤ (l.length : Int) + 1 := by omega
    have hn_x := HL.out x (by simp)
    have hi_x : (x : Int) < n := by omega
    obtain ⟨b_x, hb_x⟩ : ∃ b, decide (ex (E x)) = b := ⟨_, rfl⟩
    have HD_x := Lib.hid hb_x
    clear hb_x
    go_enter Try.func29, Try.ntmps29
    go_upto_region 2 with fail
    obtain ⟨W, hW⟩ : ∃ W, w.alloc (.cells #[.int .i64 19, .int .i64 (E i).op, .string (E i).text, .int .i64 (E i).flag, .int .i64 (E i).size] 28) = W := ⟨_, rfl⟩
    rw [hW]
    have hbW : Below w.heap.size w W := by rw [← hW]; go_grown
    obtain ⟨z0, z1, z2, z3, z4, -⟩ := cells5 (show W.heap[w.heap.size]? = _ by rw [← hW]; exact block_new w _)
    clear hW
    have HTW := Lib.hid (HT.out.below hbW)
    try have hx0a := cell_later hbW hx0
    try have hx1a := cell_later hbW hx1
    try have hx8a := cell_later hbW hx8
    try have p0a := cell_later hbW p0
    go_wp2_with (first | (go_at_call 28; refine (kinds_yes a n cap E hn l _ _ [33] (by decide) _ (fun k hk => HL.out k (List.mem_append_left _ hk)) (by omega) (HTW.out.below (by go_grown)) ((HI2.out.below hbW).below (by go_grown)) (KsIn.new _ _ _)).mono ?_; rintro e w2 ⟨⟨r, rfl, hr⟩, hb2⟩; have hbw : Below w.heap.size w w2 := below_step (Nat.le_refl _) hbW (below_step (Nat.le_refl _) (by go_grown) hb2); have HR := Lib.hid hr; clear hr; have hx9 := cell_later hbw hx0; cases r) | (go_at_call 15; refine (expr_any a n cap E hn x _ hn_x (HT.out.below hbw)).mono ?_; rintro e w3 ⟨rfl, rfl⟩; rw [HD_x.out]; cases b_x))
    all_goals
      go_ret
      refine ⟨⟨_, rfl, fun h => ?_⟩, by first | exact hbw | exact hbW⟩
      first | (cases h; done) | exact .func HK.out ⟨l, x, rfl, fun j hj => by simpa using HR.out (by first | rfl | trivial) j hj, of_decide_eq_true HD_x.out⟩

set_option maxRecDepth 100000 in
set_option maxHeartbeats 1600000 in
theorem great_20 (a : Addr) (n cap : Nat) (E : Nat → Nd) (hn : n ≤ 400) (i : Nat) (l : List Nat) (lv : Value) (w : World) (hi : i < n) (hl : ∀ k ∈ l, k < n) (hln : l.length ≤ n) (ht : Lies w a n E) (hI : NumsIn w lv l) (hk : (E i).kind = 20) :
    Calls Try.prog 29 #[.slice (some a) n cap, .int .i64 i, lv] w fun e w' => Yes (Shape E (E i) l) e ∧ Below w.heap.size w w' := by
  have HK := Lib.hid hk
  obtain ⟨q0, q1, q2, q3, q4⟩ := ht i hi
  rw [hk] at q0
  have hin : (i : Int) < n := by omega
  have HT := Lib.hid ht
  have HL := Lib.hid hl
  clear ht hl hk
  rcases snoc_cases l with rfl | ⟨l, x, rfl⟩
  · obtain ⟨ao, cp, rfl, hc1, hc2⟩ := hI.form
    change Calls _ _ #[_, _, .slice ao 0 cp] _ _
    clear hI hc1
    go_enter Try.func29, Try.ntmps29
    go_upto_region 2 with fail
    obtain ⟨W, hW⟩ : ∃ W, w.alloc (.cells #[.int .i64 20, .int .i64 (E i).op, .string (E i).text, .int .i64 (E i).flag, .int .i64 (E i).size] 28) = W := ⟨_, rfl⟩
    rw [hW]
    have hbW : Below w.heap.size w W := by rw [← hW]; go_grown
    obtain ⟨z0, z1, z2, z3, z4, -⟩ := cells5 (show W.heap[w.heap.size]? = _ by rw [← hW]; exact block_new w _)
    clear hW
    have HTW := Lib.hid (HT.out.below hbW)
    try have hx0a := cell_later hbW hx0
    try have hx1a := cell_later hbW hx1
    try have hx8a := cell_later hbW hx8
    try have p0a := cell_later hbW p0
    go_wp2_with fail
    all_goals
      go_ret
      refine ⟨⟨_, rfl, fun h => ?_⟩, by first | exact hbw | exact hbW⟩
      first | (cases h; done) | fail
  · by_cases h1 : l.length = 0
    · obtain rfl := List.length_eq_zero_iff.1 h1
      clear h1
      simp only [List.nil_append] at hI ⊢
      have HI := Lib.hid hI
      obtain ⟨ao, cp, rfl, hc1, hc2⟩ := hI.form
      obtain ⟨g, o, rfl, hx0⟩ := hI.get (i := 0) rfl
      simp only [Nat.add_zero] at hx0
      change Calls _ _ #[_, _, .slice (some ⟨g, o, none⟩) 1 cp] _ _
      have hc1' : 1 ≤ cp := hc1
      clear hI hc1
      have hn_x := HL.out x (by simp)
      have hi_x : (x : Int) < n := by omega
      obtain ⟨b_x, hb_x⟩ : ∃ b, decide (ex (E x)) = b := ⟨_, rfl⟩
      have HD_x := Lib.hid hb_x
      clear hb_x
      go_enter Try.func29, Try.ntmps29
      go_upto_region 2 with fail
      obtain ⟨W, hW⟩ : ∃ W, w.alloc (.cells #[.int .i64 20, .int .i64 (E i).op, .string (E i).text, .int .i64 (E i).flag, .int .i64 (E i).size] 28) = W := ⟨_, rfl⟩
      rw [hW]
      have hbW : Below w.heap.size w W := by rw [← hW]; go_grown
      obtain ⟨z0, z1, z2, z3, z4, -⟩ := cells5 (show W.heap[w.heap.size]? = _ by rw [← hW]; exact block_new w _)
      clear hW
      have HTW := Lib.hid (HT.out.below hbW)
      try have hx0a := cell_later hbW hx0
      try have hx1a := cell_later hbW hx1
      try have hx8a := cell_later hbW hx8
      try have p0a := cell_later hbW p0
      go_wp2_with fail
      all_goals
        go_ret
        refine ⟨⟨_, rfl, fun h => ?_⟩, by first | exact hbw | exact hbW⟩
        first | (cases h; done) | fail
    · obtain ⟨g, o, cp, rfl, hc1, hc2, hx0, hI2⟩ := hI.snoc
      have HI2 := Lib.hid hI2
      clear hI hI2
      simp only [List.length_append, List.length_cons, List.length_nil, Nat.zero_add] at hln
      have hlb : l.length ≤ 400 := by omega
      have e1 : (l.length : Int) + 1 - 1 = l.length := by omega
      have g1 : 1 ≤ (l.length : Int) + 1 := by omega
      have hn_x := HL.out x (by simp)
      have hi_x : (x : Int) < n := by omega
      obtain ⟨b_x, hb_x⟩ : ∃ b, decide (ex (E x)) = b := ⟨_, rfl⟩
      have HD_x := Lib.hid hb_x
      clear hb_x
      have g2 : 2 ≤ (l.length : Int) + 1 := by omega
      go_enter Try.func29, Try.ntmps29
      go_upto_region 2 with fail
      obtain ⟨W, hW⟩ : ∃ W, w.alloc (.cells #[.int .i64 20, .int .i64 (E i).op, .string (E i).text, .int .i64 (E i).flag, .int .i64 (E i).size] 28) = W := ⟨_, rfl⟩
      rw [hW]
      have hbW : Below w.heap.size w W := by rw [← hW]; go_grown
      obtain ⟨z0, z1, z2, z3, z4, -⟩ := cells5 (show W.heap[w.heap.size]? = _ by rw [← hW]; exact block_new w _)
      clear hW
      have HTW := Lib.hid (HT.out.below hbW)
      try have hx0a := cell_later hbW hx0
      try have hx1a := cell_later hbW hx1
      try have hx8a := cell_later hbW hx8
      try have p0a := cell_later hbW p0
      go_wp2_with (first | (go_at_call 28; refine (kinds_yes a n cap E hn l _ _ [32] (by decide) _ (fun k hk => HL.out k (List.mem_append_left _ hk)) (by omega) (HTW.out.below (by go_grown)) ((HI2.out.below hbW).below (by go_grown)) (KsIn.new _ _ _)).mono ?_; rintro e w2 ⟨⟨r, rfl, hr⟩, hb2⟩; have hbw : Below w.heap.size w w2 := below_step (Nat.le_refl _) hbW (below_step (Nat.le_refl _) (by go_grown) hb2); have HR := Lib.hid hr; clear hr; have hx9 := cell_later hbw hx0; cases r) | (go_at_call 15; refine (expr_any a n cap E hn x _ hn_x (HT.out.below hbw)).mono ?_; rintro e w3 ⟨rfl, rfl⟩; rw [HD_x.out]; cases b_x))
      all_goals
        go_ret
        refine ⟨⟨_, rfl, fun h => ?_⟩, by first | exact hbw | exact hbW⟩
        first | (cases h; done) | exact .local_ l HK.out ⟨l, x, rfl, fun j hj => by simpa using HR.out (by first | rfl | trivial) j hj, of_decide_eq_true HD_x.out⟩ (by simp; omega)

set_option maxRecDepth 100000 in
set_option maxHeartbeats 1600000 in
theorem great_32_0 (a : Addr) (n cap : Nat) (E : Nat → Nd) (hn : n ≤ 400) (i : Nat) (l : List Nat) (lv : Value) (w : World) (hi : i < n) (hl : ∀ k ∈ l, k < n) (hln : l.length ≤ n) (ht : Lies w a n E) (hI : NumsIn w lv l) (hk : (E i).kind = 32) (hf : (E i).flag = 0) :
    Calls Try.prog 29 #[.slice (some a) n cap, .int .i64 i, lv] w fun e w' => Yes (Shape E (E i) l) e ∧ Below w.heap.size w w' := by
  have HK := Lib.hid hk
  obtain ⟨q0, q1, q2, q3, q4⟩ := ht i hi
  rw [hk] at q0
  rw [hf] at q3
  have HF := Lib.hid hf
  clear hf
  have hin : (i : Int) < n := by omega
  have HT := Lib.hid ht
  have HL := Lib.hid hl
  clear ht hl hk
  rcases l with _ | ⟨x, _ | ⟨y, l⟩⟩
  · obtain ⟨ao, cp, rfl, hc1, hc2⟩ := hI.form
    change Calls _ _ #[_, _, .slice ao 0 cp] _ _
    clear hI hc1
    go_enter Try.func29, Try.ntmps29
    go_upto_region 2 with fail
    obtain ⟨W, hW⟩ : ∃ W, w.alloc (.cells #[.int .i64 32, .int .i64 (E i).op, .string (E i).text, .int .i64 0, .int .i64 (E i).size] 28) = W := ⟨_, rfl⟩
    rw [hW]
    have hbW : Below w.heap.size w W := by rw [← hW]; go_grown
    obtain ⟨z0, z1, z2, z3, z4, -⟩ := cells5 (show W.heap[w.heap.size]? = _ by rw [← hW]; exact block_new w _)
    clear hW
    have HTW := Lib.hid (HT.out.below hbW)
    try have hx0a := cell_later hbW hx0
    try have hx1a := cell_later hbW hx1
    try have hx8a := cell_later hbW hx8
    try have p0a := cell_later hbW p0
    go_wp2_with fail
    all_goals
      go_ret
      refine ⟨⟨_, rfl, fun h => ?_⟩, by first | exact hbw | exact hbW⟩
      first | (cases h; done) | fail
  · have HI := Lib.hid hI
    obtain ⟨ao, cp, rfl, hc1, hc2⟩ := hI.form
    obtain ⟨g, o, rfl, hx0⟩ := hI.get (i := 0) rfl
    simp only [Nat.add_zero] at hx0
    change Calls _ _ #[_, _, .slice (some ⟨g, o, none⟩) 1 cp] _ _
    have hc1' : 1 ≤ cp := hc1
    clear hI hc1
    have hn_x := HL.out x (by simp)
    have hi_x : (x : Int) < n := by omega
    obtain ⟨b_x, hb_x⟩ : ∃ b, decide (ex (E x)) = b := ⟨_, rfl⟩
    have HD_x := Lib.hid hb_x
    clear hb_x
    go_enter Try.func29, Try.ntmps29
    go_upto_region 2 with fail
    obtain ⟨W, hW⟩ : ∃ W, w.alloc (.cells #[.int .i64 32, .int .i64 (E i).op, .string (E i).text, .int .i64 0, .int .i64 (E i).size] 28) = W := ⟨_, rfl⟩
    rw [hW]
    have hbW : Below w.heap.size w W := by rw [← hW]; go_grown
    obtain ⟨z0, z1, z2, z3, z4, -⟩ := cells5 (show W.heap[w.heap.size]? = _ by rw [← hW]; exact block_new w _)
    clear hW
    have HTW := Lib.hid (HT.out.below hbW)
    try have hx0a := cell_later hbW hx0
    try have hx1a := cell_later hbW hx1
    try have hx8a := cell_later hbW hx8
    try have p0a := cell_later hbW p0
    go_wp2_with (first | (go_at_call 28; refine (kinds_yes a n cap E hn [] _ _ [33] (by decide) _ (fun k hk => absurd hk (by simp)) (by simp) (HTW.out.below (by go_grown)) (NumsIn.nil _ _ _ (by omega)) (KsIn.new _ _ _)).mono ?_; rintro e w2 ⟨⟨r, rfl, hr⟩, hb2⟩; have hbw : Below w.heap.size w w2 := below_step (Nat.le_refl _) hbW (below_step (Nat.le_refl _) (by go_grown) hb2); have HR := Lib.hid hr; clear hr; have hx9 := cell_later hbw hx0; cases r) | (go_at_call 15; refine (expr_any a n cap E hn x _ hn_x (HT.out.below hbw)).mono ?_; rintro e w3 ⟨rfl, rfl⟩; rw [HD_x.out]; cases b_x))
    all_goals
      go_ret
      refine ⟨⟨_, rfl, fun h => ?_⟩, by first | exact hbw | exact hbW⟩
      first | (cases h; done) | exact .bind1 x HK.out HF.out rfl (of_decide_eq_true HD_x.out)
  · obtain ⟨ao, cp, rfl, hc1, hc2⟩ := hI.form
    change Calls _ _ #[_, _, .slice ao (l.length + 1 + 1) cp] _ _
    clear hI
    have d1 : ((l.length : Int) + 1 + 1 == 1) = false := by simp; omega
    have d2 : ¬ (l.length : Int) + 1 + 1 = 1 := by omega
    have d3 : 1 ≤ (l.length : Int) + 1 + 1 := by omega
    go_enter Try.func29, Try.ntmps29
    go_upto_region 2 with fail
    obtain ⟨W, hW⟩ : ∃ W, w.alloc (.cells #[.int .i64 32, .int .i64 (E i).op, .string (E i).text, .int .i64 0, .int .i64 (E i).size] 28) = W := ⟨_, rfl⟩
    rw [hW]
    have hbW : Below w.heap.size w W := by rw [← hW]; go_grown
    obtain ⟨z0, z1, z2, z3, z4, -⟩ := cells5 (show W.heap[w.heap.size]? = _ by rw [← hW]; exact block_new w _)
    clear hW
    have HTW := Lib.hid (HT.out.below hbW)
    try have hx0a := cell_later hbW hx0
    try have hx1a := cell_later hbW hx1
    try have hx8a := cell_later hbW hx8
    try have p0a := cell_later hbW p0
    go_wp2_with fail
    all_goals
      go_ret
      refine ⟨⟨_, rfl, fun h => ?_⟩, by first | exact hbw | exact hbW⟩
      first | (cases h; done) | fail

set_option maxRecDepth 100000 in
set_option maxHeartbeats 1600000 in
theorem great_32_1 (a : Addr) (n cap : Nat) (E : Nat → Nd) (hn : n ≤ 400) (i : Nat) (l : List Nat) (lv : Value) (w : World) (hi : i < n) (hl : ∀ k ∈ l, k < n) (hln : l.length ≤ n) (ht : Lies w a n E) (hI : NumsIn w lv l) (hk : (E i).kind = 32) (hf : (E i).flag = 1) :
    Calls Try.prog 29 #[.slice (some a) n cap, .int .i64 i, lv] w fun e w' => Yes (Shape E (E i) l) e ∧ Below w.heap.size w w' := by
  have HK := Lib.hid hk
  obtain ⟨q0, q1, q2, q3, q4⟩ := ht i hi
  rw [hk] at q0
  rw [hf] at q3
  have HF := Lib.hid hf
  clear hf
  have hin : (i : Int) < n := by omega
  have HT := Lib.hid ht
  have HL := Lib.hid hl
  clear ht hl hk
  rcases snoc_cases l with rfl | ⟨l, x, rfl⟩
  · obtain ⟨ao, cp, rfl, hc1, hc2⟩ := hI.form
    change Calls _ _ #[_, _, .slice ao 0 cp] _ _
    clear hI hc1
    go_enter Try.func29, Try.ntmps29
    go_upto_region 2 with fail
    obtain ⟨W, hW⟩ : ∃ W, w.alloc (.cells #[.int .i64 32, .int .i64 (E i).op, .string (E i).text, .int .i64 1, .int .i64 (E i).size] 28) = W := ⟨_, rfl⟩
    rw [hW]
    have hbW : Below w.heap.size w W := by rw [← hW]; go_grown
    obtain ⟨z0, z1, z2, z3, z4, -⟩ := cells5 (show W.heap[w.heap.size]? = _ by rw [← hW]; exact block_new w _)
    clear hW
    have HTW := Lib.hid (HT.out.below hbW)
    try have hx0a := cell_later hbW hx0
    try have hx1a := cell_later hbW hx1
    try have hx8a := cell_later hbW hx8
    try have p0a := cell_later hbW p0
    go_wp2_with fail
    all_goals
      go_ret
      refine ⟨⟨_, rfl, fun h => ?_⟩, by first | exact hbw | exact hbW⟩
      first | (cases h; done) | fail
  · obtain ⟨g, o, cp, rfl, hc1, hc2, hx0, hI2⟩ := hI.snoc
    have HI2 := Lib.hid hI2
    clear hI hI2
    simp only [List.length_append, List.length_cons, List.length_nil, Nat.zero_add] at hln
    have hlb : l.length ≤ 400 := by omega
    have e1 : (l.length : Int) + 1 - 1 = l.length := by omega
    have g1 : 1 ≤ (l.length : Int) + 1 := by omega
    have hn_x := HL.out x (by simp)
    have hi_x : (x : Int) < n := by omega
    obtain ⟨b_x, hb_x⟩ : ∃ b, decide (ex (E x)) = b := ⟨_, rfl⟩
    have HD_x := Lib.hid hb_x
    clear hb_x
    go_enter Try.func29, Try.ntmps29
    go_upto_region 2 with fail
    obtain ⟨W, hW⟩ : ∃ W, w.alloc (.cells #[.int .i64 32, .int .i64 (E i).op, .string (E i).text, .int .i64 1, .int .i64 (E i).size] 28) = W := ⟨_, rfl⟩
    rw [hW]
    have hbW : Below w.heap.size w W := by rw [← hW]; go_grown
    obtain ⟨z0, z1, z2, z3, z4, -⟩ := cells5 (show W.heap[w.heap.size]? = _ by rw [← hW]; exact block_new w _)
    clear hW
    have HTW := Lib.hid (HT.out.below hbW)
    try have hx0a := cell_later hbW hx0
    try have hx1a := cell_later hbW hx1
    try have hx8a := cell_later hbW hx8
    try have p0a := cell_later hbW p0
    go_wp2_with (first | (go_at_call 28; refine (kinds_yes a n cap E hn l _ _ [33] (by decide) _ (fun k hk => HL.out k (List.mem_append_left _ hk)) (by omega) (HTW.out.below (by go_grown)) ((HI2.out.below hbW).below (by go_grown)) (KsIn.new _ _ _)).mono ?_; rintro e w2 ⟨⟨r, rfl, hr⟩, hb2⟩; have hbw : Below w.heap.size w w2 := below_step (Nat.le_refl _) hbW (below_step (Nat.le_refl _) (by go_grown) hb2); have HR := Lib.hid hr; clear hr; have hx9 := cell_later hbw hx0; cases r) | (go_at_call 15; refine (expr_any a n cap E hn x _ hn_x (HT.out.below hbw)).mono ?_; rintro e w3 ⟨rfl, rfl⟩; rw [HD_x.out]; cases b_x))
    all_goals
      go_ret
      refine ⟨⟨_, rfl, fun h => ?_⟩, by first | exact hbw | exact hbW⟩
      first | (cases h; done) | exact .bind2 HK.out HF.out ⟨l, x, rfl, fun j hj => by simpa using HR.out (by first | rfl | trivial) j hj, of_decide_eq_true HD_x.out⟩

set_option maxRecDepth 100000 in
set_option maxHeartbeats 1600000 in
theorem great_17 (a : Addr) (n cap : Nat) (E : Nat → Nd) (hn : n ≤ 400) (i : Nat) (l : List Nat) (lv : Value) (w : World) (hi : i < n) (hl : ∀ k ∈ l, k < n) (hln : l.length ≤ n) (ht : Lies w a n E) (hI : NumsIn w lv l) (hk : (E i).kind = 17) :
    Calls Try.prog 29 #[.slice (some a) n cap, .int .i64 i, lv] w fun e w' => Yes (Shape E (E i) l) e ∧ Below w.heap.size w w' := by
  have HK := Lib.hid hk
  obtain ⟨q0, q1, q2, q3, q4⟩ := ht i hi
  rw [hk] at q0
  have hin : (i : Int) < n := by omega
  have HT := Lib.hid ht
  have HL := Lib.hid hl
  clear ht hl hk
  have HI := Lib.hid hI
  obtain ⟨ao, cp, rfl, hc1, hc2⟩ := hI.form
  by_cases h4 : l.length = 4
  · obtain ⟨x, y, z, u, rfl⟩ : ∃ x y z u, l = [x, y, z, u] := by
      match l, h4 with
      | [x, y, z, u], _ => exact ⟨x, y, z, u, rfl⟩
    clear h4
    obtain ⟨g, o, rfl, hx0⟩ := hI.get (i := 0) rfl
    simp only [Nat.add_zero] at hx0
    change Calls _ _ #[_, _, .slice (some ⟨g, o, none⟩) 4 cp] _ _
    have hc1' : 4 ≤ cp := hc1
    clear hI hc1
    have hn_x := HL.out x (by simp)
    have hi_x : (x : Int) < n := by omega
    obtain ⟨b_x, hb_x⟩ : ∃ b, decide (ex (E x)) = b := ⟨_, rfl⟩
    have HD_x := Lib.hid hb_x
    clear hb_x
    go_enter Try.func29, Try.ntmps29
    go_upto_region 2 with fail
    obtain ⟨W, hW⟩ : ∃ W, w.alloc (.cells #[.int .i64 17, .int .i64 (E i).op, .string (E i).text, .int .i64 (E i).flag, .int .i64 (E i).size] 28) = W := ⟨_, rfl⟩
    rw [hW]
    have hbW : Below w.heap.size w W := by rw [← hW]; go_grown
    obtain ⟨z0, z1, z2, z3, z4, -⟩ := cells5 (show W.heap[w.heap.size]? = _ by rw [← hW]; exact block_new w _)
    clear hW
    have HTW := Lib.hid (HT.out.below hbW)
    have hx0a := cell_later hbW hx0
    go_wp2_with (go_at_call 15; refine (expr_any a n cap E hn x _ hn_x HTW.out).mono ?_; rintro e w3 ⟨rfl, rfl⟩; rw [HD_x.out]; cases b_x)
    · go_ret
      exact ⟨⟨_, rfl, fun h => by cases h⟩, hbW⟩
    have HIW := Lib.hid (HI.out.below hbW)
    go_loop [9] (fun v => ∃ j : Nat, v = .int .i64 j ∧ 1 ≤ j ∧ j ≤ 4 ∧ Hid (∀ m, 1 ≤ m → m < j → ∀ k, [x, y, z, u][m]? = some k → ex (E k) ∨ (E k).kind = 31)) (fun v => 4 - (intOf v).toNat)
    case atStart => exact ⟨1, rfl, Nat.le_refl _, by omega, Lib.hid (fun m h1 h2 => absurd h2 (by omega))⟩
    case round =>
      obtain ⟨j, rfl, hj1, hj, HJ⟩ := hrel
      by_cases hlt : j < 4
      · obtain ⟨k, hk⟩ : ∃ k, [x, y, z, u][j]? = some k := ⟨_, List.getElem?_eq_getElem hlt⟩
        obtain ⟨g', o', he, hc⟩ := HIW.out.get hk
        cases he
        have hkn := HL.out k (List.mem_of_getElem? hk)
        have hkn' : (k : Int) < n := by omega
        have hlt' : (j : Int) < 4 := by omega
        obtain ⟨p0, -⟩ := HTW.out k hkn
        obtain ⟨ke, hke⟩ : ∃ ke, (E k).kind = ke := ⟨_, rfl⟩
        rw [hke] at p0
        have HKE := Lib.hid hke
        have HKj := Lib.hid hk
        clear hk hke
        have step : (ex (E k) ∨ ke = 31) → Hid (∀ m, 1 ≤ m → m < j + 1 → ∀ k, [x, y, z, u][m]? = some k → ex (E k) ∨ (E k).kind = 31) := by
          intro hor
          refine Lib.hid (fun m h1 h2 k' hk' => ?_)
          by_cases hmj : m < j
          · exact HJ.out m h1 hmj k' hk'
          · obtain rfl : m = j := by omega
            rw [HKj.out] at hk'
            cases hk'
            rw [HKE.out]
            exact hor
        have HS := Lib.hid step
        clear step
        by_cases h31 : ke = 31
        · subst h31
          obtain ⟨bk, hbk⟩ : ∃ b, decide (ex (E k)) = b := ⟨_, rfl⟩
          have HDk := Lib.hid hbk
          clear hbk
          go_wp2_with (go_at_call 15; refine (expr_any a n cap E hn k _ hkn HTW.out).mono ?_; rintro e w3 ⟨rfl, rfl⟩; rw [HDk.out]; cases bk)
          all_goals
            go_round
            case rel => exact ⟨j + 1, by go_num, by omega, by omega, HS.out (.inr (by first | rfl | trivial))⟩
            case measure => first | (simp [intOf]; done) | (simp [intOf]; omega)
        · have d1 : (ke == 31) = false := by simpa using h31
          by_cases hx : ex (E k)
          · have HDk : Hid (decide (ex (E k)) = true) := Lib.hid (decide_eq_true hx)
            have HS2 := Lib.hid (HS.out (.inl hx))
            clear hx
            go_wp2_with (go_at_call 15; refine (expr_any a n cap E hn k _ hkn HTW.out).mono ?_; rintro e w3 ⟨rfl, rfl⟩; rw [HDk.out])
            go_round
            case rel => exact ⟨j + 1, by go_num, by omega, by omega, HS2.out⟩
            case measure => first | (simp [intOf]; done) | (simp [intOf]; omega)
          · have HDk : Hid (decide (ex (E k)) = false) := Lib.hid (decide_eq_false hx)
            clear hx
            go_wp2_with (go_at_call 15; refine (expr_any a n cap E hn k _ hkn HTW.out).mono ?_; rintro e w3 ⟨rfl, rfl⟩; rw [HDk.out])
            go_ret
            exact ⟨⟨_, rfl, fun h => by cases h⟩, hbW⟩
      · obtain rfl : j = 4 := by omega
        go_wp2
        go_ret
        refine ⟨⟨_, rfl, fun _ => .slice x y z u HK.out rfl (of_decide_eq_true HD_x.out) (fun k hk => ?_)⟩, hbW⟩
        simp only [List.mem_cons, List.not_mem_nil, or_false] at hk
        rcases hk with rfl | rfl | rfl
        · exact HJ.out 1 (by omega) (by omega) _ rfl
        · exact HJ.out 2 (by omega) (by omega) _ rfl
        · exact HJ.out 3 (by omega) (by omega) _ rfl
  · clear hI
    have d2 : ((l.length : Int) == 4) = false := by simp; omega
    have d3 : ¬ (l.length : Int) = 4 := by omega
    go_enter Try.func29, Try.ntmps29
    go_upto_region 2 with fail
    obtain ⟨W, hW⟩ : ∃ W, w.alloc (.cells #[.int .i64 17, .int .i64 (E i).op, .string (E i).text, .int .i64 (E i).flag, .int .i64 (E i).size] 28) = W := ⟨_, rfl⟩
    rw [hW]
    have hbW : Below w.heap.size w W := by rw [← hW]; go_grown
    obtain ⟨z0, z1, z2, z3, z4, -⟩ := cells5 (show W.heap[w.heap.size]? = _ by rw [← hW]; exact block_new w _)
    clear hW
    have HTW := Lib.hid (HT.out.below hbW)
    try have hx0a := cell_later hbW hx0
    try have hx1a := cell_later hbW hx1
    try have hx8a := cell_later hbW hx8
    try have p0a := cell_later hbW p0
    go_wp2_with fail
    all_goals
      go_ret
      refine ⟨⟨_, rfl, fun h => ?_⟩, by first | exact hbw | exact hbW⟩
      first | (cases h; done) | fail
end Go.Proofs.Ytkpfbgeaodopoaa.fnDirect
