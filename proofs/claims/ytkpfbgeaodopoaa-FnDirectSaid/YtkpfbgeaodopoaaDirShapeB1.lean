/-
  FnDirect: the recogniser: nodes with kids of several sorts.
-/
import Derived.Test.YtkpfbgeaodopoaaDirShapeA
import Derived.Test.YtkpfbgeaodopoaaDirBare
namespace Go.Proofs.Ytkpfbgeaodopoaa.fnDirect
open Go.RowKit
set_option linter.unusedSimpArgs false
set_option linter.unusedVariables false

set_option maxRecDepth 100000 in
set_option maxHeartbeats 1600000 in
theorem great_29 (a : Addr) (n cap : Nat) (E : Nat → Nd) (hn : n ≤ 400) (i : Nat) (l : List Nat) (lv : Value) (w : World) (hi : i < n) (hl : ∀ k ∈ l, k < n) (hln : l.length ≤ n) (ht : Lies w a n E) (hI : NumsIn w lv l) (hk : (E i).kind = 29) :
    Calls Try.prog 29 #[.slice (some a) n cap, .int .i64 i, lv] w fun e w' => Yes (Shape E (E i) l) e ∧ Below w.heap.size w w' := by
  have HK := Lib.hid hk
  obtain ⟨q0, q1, q2, q3, q4⟩ := ht i hi
  rw [hk] at q0
  have hin : (i : Int) < n := by omega
  have HT := Lib.hid ht
  have HL := Lib.hid hl
  clear ht hl hk
  by_cases h2 : l.length = 2
  · obtain ⟨x, y, rfl⟩ : ∃ x y, l = [x, y] := by
      match l, h2 with
      | [x, y], _ => exact ⟨x, y, rfl⟩
    clear h2
    have HI := Lib.hid hI
    obtain ⟨ao, cp, rfl, hc1, hc2⟩ := hI.form
    obtain ⟨g, o, rfl, hx0⟩ := hI.get (i := 0) rfl
    obtain ⟨g', o', he, hx1⟩ := hI.get (i := 1) rfl
    cases he
    simp only [Nat.add_zero] at hx0
    change Calls _ _ #[_, _, .slice (some ⟨g, o, none⟩) 2 cp] _ _
    have hc1' : 2 ≤ cp := hc1
    clear hI hc1
    have hn_x := HL.out x (by simp)
    have hi_x : (x : Int) < n := by omega
    obtain ⟨b_x, hb_x⟩ : ∃ b, decide (ex (E x)) = b := ⟨_, rfl⟩
    have HD_x := Lib.hid hb_x
    clear hb_x
    have hn_y := HL.out y (by simp)
    have hi_y : (y : Int) < n := by omega
    obtain ⟨b_y, hb_y⟩ : ∃ b, decide (ex (E y)) = b := ⟨_, rfl⟩
    have HD_y := Lib.hid hb_y
    clear hb_y
    obtain ⟨p0, -⟩ := HT.out y hn_y
    by_cases hky : (E y).kind = 13
    · rw [hky] at p0
      have HKY := Lib.hid hky
      clear hky
      go_enter Try.func29, Try.ntmps29
      go_upto_region 2 with fail
      obtain ⟨W, hW⟩ : ∃ W, w.alloc (.cells #[.int .i64 29, .int .i64 (E i).op, .string (E i).text, .int .i64 (E i).flag, .int .i64 (E i).size] 28) = W := ⟨_, rfl⟩
      rw [hW]
      have hbW : Below w.heap.size w W := by rw [← hW]; go_grown
      obtain ⟨z0, z1, z2, z3, z4, -⟩ := cells5 (show W.heap[w.heap.size]? = _ by rw [← hW]; exact block_new w _)
      clear hW
      have HTW := Lib.hid (HT.out.below hbW)
      try have hx0a := cell_later hbW hx0
      try have hx1a := cell_later hbW hx1
      try have hx8a := cell_later hbW hx8
      try have p0a := cell_later hbW p0
      go_wp2_with (first | (go_at_call 15; refine (expr_any a n cap E hn x _ hn_x HTW.out).mono ?_; rintro e w3 ⟨rfl, rfl⟩; rw [HD_x.out]; cases b_x))
      all_goals
        go_ret
        refine ⟨⟨_, rfl, fun h => ?_⟩, by first | exact hbw | exact hbW⟩
        first | (cases h; done) | exact .brace x y HK.out rfl (of_decide_eq_true HD_x.out) HKY.out
    · obtain ⟨ke, hke⟩ : ∃ ke, (E y).kind = ke := ⟨_, rfl⟩
      rw [hke] at p0 hky
      have d1 : (ke == 13) = false := by simpa using hky
      clear hke
      go_enter Try.func29, Try.ntmps29
      go_upto_region 2 with fail
      obtain ⟨W, hW⟩ : ∃ W, w.alloc (.cells #[.int .i64 29, .int .i64 (E i).op, .string (E i).text, .int .i64 (E i).flag, .int .i64 (E i).size] 28) = W := ⟨_, rfl⟩
      rw [hW]
      have hbW : Below w.heap.size w W := by rw [← hW]; go_grown
      obtain ⟨z0, z1, z2, z3, z4, -⟩ := cells5 (show W.heap[w.heap.size]? = _ by rw [← hW]; exact block_new w _)
      clear hW
      have HTW := Lib.hid (HT.out.below hbW)
      try have hx0a := cell_later hbW hx0
      try have hx1a := cell_later hbW hx1
      try have hx8a := cell_later hbW hx8
      try have p0a := cell_later hbW p0
      go_wp2_with (first | (go_at_call 15; refine (expr_any a n cap E hn x _ hn_x HTW.out).mono ?_; rintro e w3 ⟨rfl, rfl⟩; rw [HD_x.out]; cases b_x))
      all_goals
        go_ret
        refine ⟨⟨_, rfl, fun h => ?_⟩, by first | exact hbw | exact hbW⟩
        first | (cases h; done) | fail
  · obtain ⟨ao, cp, rfl, hc1, hc2⟩ := hI.form
    clear hI
    have d2 : ((l.length : Int) == 2) = false := by simp; omega
    have d3 : ¬ (l.length : Int) = 2 := by omega
    go_enter Try.func29, Try.ntmps29
    go_upto_region 2 with fail
    obtain ⟨W, hW⟩ : ∃ W, w.alloc (.cells #[.int .i64 29, .int .i64 (E i).op, .string (E i).text, .int .i64 (E i).flag, .int .i64 (E i).size] 28) = W := ⟨_, rfl⟩
    rw [hW]
    have hbW : Below w.heap.size w W := by rw [← hW]; go_grown
    obtain ⟨z0, z1, z2, z3, z4, -⟩ := cells5 (show W.heap[w.heap.size]? = _ by rw [← hW]; exact block_new w _)
    clear hW
    have HTW := Lib.hid (HT.out.below hbW)
    try have hx0a := cell_later hbW hx0
    try have hx1a := cell_later hbW hx1
    try have hx8a := cell_later hbW hx8
    try have p0a := cell_later hbW p0
    go_wp2_with fail
    all_goals
      go_ret
      refine ⟨⟨_, rfl, fun h => ?_⟩, by first | exact hbw | exact hbW⟩
      first | (cases h; done) | fail

set_option maxRecDepth 100000 in
set_option maxHeartbeats 1600000 in
theorem great_13 (a : Addr) (n cap : Nat) (E : Nat → Nd) (hn : n ≤ 400) (i : Nat) (l : List Nat) (lv : Value) (w : World) (hi : i < n) (hl : ∀ k ∈ l, k < n) (hln : l.length ≤ n) (ht : Lies w a n E) (hI : NumsIn w lv l) (hk : (E i).kind = 13) :
    Calls Try.prog 29 #[.slice (some a) n cap, .int .i64 i, lv] w fun e w' => Yes (Shape E (E i) l) e ∧ Below w.heap.size w w' := by
  have HK := Lib.hid hk
  obtain ⟨q0, q1, q2, q3, q4⟩ := ht i hi
  rw [hk] at q0
  have hin : (i : Int) < n := by omega
  have HT := Lib.hid ht
  have HL := Lib.hid hl
  clear ht hl hk
  have HI := Lib.hid hI
  obtain ⟨ao, cp, rfl, hc1, hc2⟩ := hI.form
  clear hI
  go_enter Try.func29, Try.ntmps29
  go_upto_region 2 with fail
  obtain ⟨W, hW⟩ : ∃ W, w.alloc (.cells #[.int .i64 13, .int .i64 (E i).op, .string (E i).text, .int .i64 (E i).flag, .int .i64 (E i).size] 28) = W := ⟨_, rfl⟩
  rw [hW]
  have hbW : Below w.heap.size w W := by rw [← hW]; go_grown
  obtain ⟨z0, z1, z2, z3, z4, -⟩ := cells5 (show W.heap[w.heap.size]? = _ by rw [← hW]; exact block_new w _)
  clear hW
  have HTW := Lib.hid (HT.out.below hbW)
  try have hx0a := cell_later hbW hx0
  try have hx1a := cell_later hbW hx1
  try have hx8a := cell_later hbW hx8
  try have p0a := cell_later hbW p0
  go_wp2_with (first | (go_at_call 28; refine (kinds_yes a n cap E hn l _ _ [35, 36, 37] (by decide) _ HL.out hln (HTW.out.below (by go_grown)) ((HI.out.below hbW).below (by go_grown)) (KsIn.new _ _ _)).mono ?_; rintro e w2 ⟨⟨r, rfl, hr⟩, hb2⟩; have hbw : Below w.heap.size w w2 := below_step (Nat.le_refl _) hbW (below_step (Nat.le_refl _) (by go_grown) hb2); have HR := Lib.hid hr; clear hr; cases r))
  all_goals
    go_ret
    refine ⟨⟨_, rfl, fun h => ?_⟩, by first | exact hbw | exact hbW⟩
    first | (cases h; done) | exact .object HK.out (fun k hk => by simpa using HR.out (by first | rfl | trivial) k hk)

set_option maxRecDepth 100000 in
set_option maxHeartbeats 1600000 in
theorem great_14 (a : Addr) (n cap : Nat) (E : Nat → Nd) (hn : n ≤ 400) (i : Nat) (l : List Nat) (lv : Value) (w : World) (hi : i < n) (hl : ∀ k ∈ l, k < n) (hln : l.length ≤ n) (ht : Lies w a n E) (hI : NumsIn w lv l) (hk : (E i).kind = 14) :
    Calls Try.prog 29 #[.slice (some a) n cap, .int .i64 i, lv] w fun e w' => Yes (Shape E (E i) l) e ∧ Below w.heap.size w w' := by
  have HK := Lib.hid hk
  obtain ⟨q0, q1, q2, q3, q4⟩ := ht i hi
  rw [hk] at q0
  have hin : (i : Int) < n := by omega
  have HT := Lib.hid ht
  have HL := Lib.hid hl
  clear ht hl hk
  have HI := Lib.hid hI
  obtain ⟨ao, cp, rfl, hc1, hc2⟩ := hI.form
  clear hI
  go_enter Try.func29, Try.ntmps29
  go_upto_region 2 with fail
  obtain ⟨W, hW⟩ : ∃ W, w.alloc (.cells #[.int .i64 14, .int .i64 (E i).op, .string (E i).text, .int .i64 (E i).flag, .int .i64 (E i).size] 28) = W := ⟨_, rfl⟩
  rw [hW]
  have hbW : Below w.heap.size w W := by rw [← hW]; go_grown
  obtain ⟨z0, z1, z2, z3, z4, -⟩ := cells5 (show W.heap[w.heap.size]? = _ by rw [← hW]; exact block_new w _)
  clear hW
  have HTW := Lib.hid (HT.out.below hbW)
  try have hx0a := cell_later hbW hx0
  try have hx1a := cell_later hbW hx1
  try have hx8a := cell_later hbW hx8
  try have p0a := cell_later hbW p0
  go_wp2_with (first | (go_at_call 38; refine (scomp_yes a n cap E hn l _ _ HL.out hln HTW.out (HI.out.below hbW)).mono ?_; rintro e w2 ⟨⟨r, rfl, hr⟩, hb2⟩; have hbw : Below w.heap.size w w2 := below_step (Nat.le_refl _) hbW hb2; have HR := Lib.hid hr; clear hr))
  all_goals
    go_ret
    refine ⟨⟨_, rfl, fun h => ?_⟩, by first | exact hbw | exact hbW⟩
    first | (cases h; done) | (obtain ⟨p, hc, hs⟩ := HR.out h; obtain ⟨l1, x, l2, h1, h2, h3, h4, h5, h6⟩ := hc.2 rfl; exact .ocomp (l.take p) (l.drop p) x l1 l2 HK.out (List.take_append_drop p l).symm h1 h2 h3 h4 h5 h6 hs)

set_option maxRecDepth 100000 in
set_option maxHeartbeats 1600000 in
theorem great_12 (a : Addr) (n cap : Nat) (E : Nat → Nd) (hn : n ≤ 400) (i : Nat) (l : List Nat) (lv : Value) (w : World) (hi : i < n) (hl : ∀ k ∈ l, k < n) (hln : l.length ≤ n) (ht : Lies w a n E) (hI : NumsIn w lv l) (hk : (E i).kind = 12) :
    Calls Try.prog 29 #[.slice (some a) n cap, .int .i64 i, lv] w fun e w' => Yes (Shape E (E i) l) e ∧ Below w.heap.size w w' := by
  have HK := Lib.hid hk
  obtain ⟨q0, q1, q2, q3, q4⟩ := ht i hi
  rw [hk] at q0
  have hin : (i : Int) < n := by omega
  have HT := Lib.hid ht
  have HL := Lib.hid hl
  clear ht hl hk
  rcases l with _ | ⟨x, _ | ⟨y, l⟩⟩
  · obtain ⟨ao, cp, rfl, hc1, hc2⟩ := hI.form
    change Calls _ _ #[_, _, .slice ao 0 cp] _ _
    clear hI hc1
    go_enter Try.func29, Try.ntmps29
    go_upto_region 2 with fail
    obtain ⟨W, hW⟩ : ∃ W, w.alloc (.cells #[.int .i64 12, .int .i64 (E i).op, .string (E i).text, .int .i64 (E i).flag, .int .i64 (E i).size] 28) = W := ⟨_, rfl⟩
    rw [hW]
    have hbW : Below w.heap.size w W := by rw [← hW]; go_grown
    obtain ⟨z0, z1, z2, z3, z4, -⟩ := cells5 (show W.heap[w.heap.size]? = _ by rw [← hW]; exact block_new w _)
    clear hW
    have HTW := Lib.hid (HT.out.below hbW)
    try have hx0a := cell_later hbW hx0
    try have hx1a := cell_later hbW hx1
    try have hx8a := cell_later hbW hx8
    try have p0a := cell_later hbW p0
    go_wp2_with fail
    all_goals
      go_ret
      refine ⟨⟨_, rfl, fun h => ?_⟩, by first | exact hbw | exact hbW⟩
      first | (cases h; done) | fail
  · have HI0 := Lib.hid hI
    obtain ⟨g, o, cp, rfl, hc1, hc2, hx0, hI2⟩ := hI.cons
    have HI2 := Lib.hid hI2
    clear hI hI2
    have hn_x := HL.out x (by simp)
    have hi_x : (x : Int) < n := by omega
    obtain ⟨b_x, hb_x⟩ : ∃ b, decide (ex (E x)) = b := ⟨_, rfl⟩
    have HD_x := Lib.hid hb_x
    clear hb_x
    change Calls _ _ #[_, _, .slice (some ⟨g, o, none⟩) 1 cp] _ _
    go_enter Try.func29, Try.ntmps29
    go_upto_region 2 with fail
    obtain ⟨W, hW⟩ : ∃ W, w.alloc (.cells #[.int .i64 12, .int .i64 (E i).op, .string (E i).text, .int .i64 (E i).flag, .int .i64 (E i).size] 28) = W := ⟨_, rfl⟩
    rw [hW]
    have hbW : Below w.heap.size w W := by rw [← hW]; go_grown
    obtain ⟨z0, z1, z2, z3, z4, -⟩ := cells5 (show W.heap[w.heap.size]? = _ by rw [← hW]; exact block_new w _)
    clear hW
    have HTW := Lib.hid (HT.out.below hbW)
    try have hx0a := cell_later hbW hx0
    try have hx1a := cell_later hbW hx1
    try have hx8a := cell_later hbW hx8
    try have p0a := cell_later hbW p0
    go_wp2_with fail
    all_goals
      go_ret
      refine ⟨⟨_, rfl, fun h => ?_⟩, by first | exact hbw | exact hbW⟩
      first | (cases h; done) | fail
  · have HI0 := Lib.hid hI
    obtain ⟨g, o, cp, rfl, hc1, hc2, hx0, hI2⟩ := hI.cons
    have HI2 := Lib.hid hI2
    clear hI hI2
    have hn_x := HL.out x (by simp)
    have hi_x : (x : Int) < n := by omega
    obtain ⟨b_x, hb_x⟩ : ∃ b, decide (ex (E x)) = b := ⟨_, rfl⟩
    have HD_x := Lib.hid hb_x
    clear hb_x
    change Calls _ _ #[_, _, .slice (some ⟨g, o, none⟩) (l.length + 1 + 1) cp] _ _
    have hcp : ¬ cp = 1 := by simp only [List.length_cons] at hc1; omega
    have g1 : 1 ≤ (l.length : Int) + 1 + 1 := by omega
    have g2 : 2 ≤ (l.length : Int) + 1 + 1 := by omega
    go_enter Try.func29, Try.ntmps29
    go_upto_region 2 with fail
    obtain ⟨W, hW⟩ : ∃ W, w.alloc (.cells #[.int .i64 12, .int .i64 (E i).op, .string (E i).text, .int .i64 (E i).flag, .int .i64 (E i).size] 28) = W := ⟨_, rfl⟩
    rw [hW]
    have hbW : Below w.heap.size w W := by rw [← hW]; go_grown
    obtain ⟨z0, z1, z2, z3, z4, -⟩ := cells5 (show W.heap[w.heap.size]? = _ by rw [← hW]; exact block_new w _)
    clear hW
    have HTW := Lib.hid (HT.out.below hbW)
    try have hx0a := cell_later hbW hx0
    try have hx1a := cell_later hbW hx1
    try have hx8a := cell_later hbW hx8
    try have p0a := cell_later hbW p0
    go_wp2_with (first | (go_at_call 15; refine (expr_any a n cap E hn x _ hn_x HTW.out).mono ?_; rintro e w3 ⟨rfl, rfl⟩; rw [HD_x.out]; cases b_x) | (go_at_call 37; refine (specs_yes a n cap E hn (y :: l) _ _ (fun k hk => HL.out k (List.mem_cons_of_mem _ hk)) (by simp only [List.length_cons] at *; omega) HTW.out (HI2.out.below hbW)).mono ?_; rintro e w2 ⟨⟨r, rfl, hr⟩, hb2⟩; have hbw : Below w.heap.size w w2 := below_step (Nat.le_refl _) hbW hb2; have HR := Lib.hid hr; clear hr; cases r))
    all_goals
      go_ret
      refine ⟨⟨_, rfl, fun h => ?_⟩, by first | exact hbw | exact hbW⟩
      first | (cases h; done) | exact .comp x (y :: l) HK.out rfl (of_decide_eq_true HD_x.out) (HR.out (by first | rfl | trivial))

set_option maxRecDepth 100000 in
set_option maxHeartbeats 1600000 in
theorem great_18 (a : Addr) (n cap : Nat) (E : Nat → Nd) (hn : n ≤ 400) (i : Nat) (l : List Nat) (lv : Value) (w : World) (hi : i < n) (hl : ∀ k ∈ l, k < n) (hln : l.length ≤ n) (ht : Lies w a n E) (hI : NumsIn w lv l) (hk : (E i).kind = 18) :
    Calls Try.prog 29 #[.slice (some a) n cap, .int .i64 i, lv] w fun e w' => Yes (Shape E (E i) l) e ∧ Below w.heap.size w w' := by
  have HK := Lib.hid hk
  obtain ⟨q0, q1, q2, q3, q4⟩ := ht i hi
  rw [hk] at q0
  have hin : (i : Int) < n := by omega
  have HT := Lib.hid ht
  have HL := Lib.hid hl
  clear ht hl hk
  rcases l with _ | ⟨x, _ | ⟨y, l⟩⟩
  · obtain ⟨ao, cp, rfl, hc1, hc2⟩ := hI.form
    change Calls _ _ #[_, _, .slice ao 0 cp] _ _
    clear hI hc1
    go_enter Try.func29, Try.ntmps29
    go_upto_region 2 with fail
    obtain ⟨W, hW⟩ : ∃ W, w.alloc (.cells #[.int .i64 18, .int .i64 (E i).op, .string (E i).text, .int .i64 (E i).flag, .int .i64 (E i).size] 28) = W := ⟨_, rfl⟩
    rw [hW]
    have hbW : Below w.heap.size w W := by rw [← hW]; go_grown
    obtain ⟨z0, z1, z2, z3, z4, -⟩ := cells5 (show W.heap[w.heap.size]? = _ by rw [← hW]; exact block_new w _)
    clear hW
    have HTW := Lib.hid (HT.out.below hbW)
    try have hx0a := cell_later hbW hx0
    try have hx1a := cell_later hbW hx1
    try have hx8a := cell_later hbW hx8
    try have p0a := cell_later hbW p0
    go_wp2_with fail
    all_goals
      go_ret
      refine ⟨⟨_, rfl, fun h => ?_⟩, by first | exact hbw | exact hbW⟩
      first | (cases h; done) | fail
  · have HI0 := Lib.hid hI
    obtain ⟨g, o, cp, rfl, hc1, hc2, hx0, hI2⟩ := hI.cons
    have HI2 := Lib.hid hI2
    clear hI hI2
    have hn_x := HL.out x (by simp)
    have hi_x : (x : Int) < n := by omega
    obtain ⟨b_x, hb_x⟩ : ∃ b, decide (ex (E x)) = b := ⟨_, rfl⟩
    have HD_x := Lib.hid hb_x
    clear hb_x
    change Calls _ _ #[_, _, .slice (some ⟨g, o, none⟩) 1 cp] _ _
    have hcm : cp - 1 ≤ maxLen := Nat.le_trans (Nat.sub_le _ _) hc2
    by_cases hcp : cp = 1
    all_goals
      go_enter Try.func29, Try.ntmps29
      go_upto_region 2 with fail
      obtain ⟨W, hW⟩ : ∃ W, w.alloc (.cells #[.int .i64 18, .int .i64 (E i).op, .string (E i).text, .int .i64 (E i).flag, .int .i64 (E i).size] 28) = W := ⟨_, rfl⟩
      rw [hW]
      have hbW : Below w.heap.size w W := by rw [← hW]; go_grown
      obtain ⟨z0, z1, z2, z3, z4, -⟩ := cells5 (show W.heap[w.heap.size]? = _ by rw [← hW]; exact block_new w _)
      clear hW
      have HTW := Lib.hid (HT.out.below hbW)
      try have hx0a := cell_later hbW hx0
      try have hx1a := cell_later hbW hx1
      try have hx8a := cell_later hbW hx8
      try have p0a := cell_later hbW p0
      go_wp2_with (first | (go_at_call 15; refine (expr_any a n cap E hn x _ hn_x HTW.out).mono ?_; rintro e w3 ⟨rfl, rfl⟩; rw [HD_x.out]; cases b_x) | (go_at_call 39; refine (args_yes a n cap E hn [] _ _ (fun k hk => absurd hk (by simp)) (by simp) HTW.out (by first | with_reducible exact NumsIn.nil _ _ _ hcm | with_reducible exact NumsIn.nil _ _ _ (Nat.zero_le _))).mono ?_; rintro e w2 ⟨⟨r, rfl, hr⟩, hb2⟩; have hbw : Below w.heap.size w w2 := below_step (Nat.le_refl _) hbW hb2; have HR := Lib.hid hr; clear hr; cases r))
      all_goals
        go_ret
        refine ⟨⟨_, rfl, fun h => ?_⟩, by first | exact hbw | exact hbW⟩
        first | (cases h; done) | exact .apply x [] HK.out rfl (of_decide_eq_true HD_x.out) (fun k hk => absurd hk (by simp)) (fun i h1 h2 => absurd h2 (by simp))
  · have HI0 := Lib.hid hI
    obtain ⟨g, o, cp, rfl, hc1, hc2, hx0, hI2⟩ := hI.cons
    have HI2 := Lib.hid hI2
    clear hI hI2
    have hn_x := HL.out x (by simp)
    have hi_x : (x : Int) < n := by omega
    obtain ⟨b_x, hb_x⟩ : ∃ b, decide (ex (E x)) = b := ⟨_, rfl⟩
    have HD_x := Lib.hid hb_x
    clear hb_x
    change Calls _ _ #[_, _, .slice (some ⟨g, o, none⟩) (l.length + 1 + 1) cp] _ _
    have hcp : ¬ cp = 1 := by simp only [List.length_cons] at hc1; omega
    have g1 : 1 ≤ (l.length : Int) + 1 + 1 := by omega
    have g2 : 2 ≤ (l.length : Int) + 1 + 1 := by omega
    go_enter Try.func29, Try.ntmps29
    go_upto_region 2 with fail
    obtain ⟨W, hW⟩ : ∃ W, w.alloc (.cells #[.int .i64 18, .int .i64 (E i).op, .string (E i).text, .int .i64 (E i).flag, .int .i64 (E i).size] 28) = W := ⟨_, rfl⟩
    rw [hW]
    have hbW : Below w.heap.size w W := by rw [← hW]; go_grown
    obtain ⟨z0, z1, z2, z3, z4, -⟩ := cells5 (show W.heap[w.heap.size]? = _ by rw [← hW]; exact block_new w _)
    clear hW
    have HTW := Lib.hid (HT.out.below hbW)
    try have hx0a := cell_later hbW hx0
    try have hx1a := cell_later hbW hx1
    try have hx8a := cell_later hbW hx8
    try have p0a := cell_later hbW p0
    go_wp2_with (first | (go_at_call 15; refine (expr_any a n cap E hn x _ hn_x HTW.out).mono ?_; rintro e w3 ⟨rfl, rfl⟩; rw [HD_x.out]; cases b_x) | (go_at_call 39; refine (args_yes a n cap E hn (y :: l) _ _ (fun k hk => HL.out k (List.mem_cons_of_mem _ hk)) (by simp only [List.length_cons] at *; omega) HTW.out (HI2.out.below hbW)).mono ?_; rintro e w2 ⟨⟨r, rfl, hr⟩, hb2⟩; have hbw : Below w.heap.size w w2 := below_step (Nat.le_refl _) hbW hb2; have HR := Lib.hid hr; clear hr; cases r))
    all_goals
      go_ret
      refine ⟨⟨_, rfl, fun h => ?_⟩, by first | exact hbw | exact hbW⟩
      first | (cases h; done) | exact .apply x (y :: l) HK.out rfl (of_decide_eq_true HD_x.out) (HR.out (by first | rfl | trivial)).1 (HR.out (by first | rfl | trivial)).2
end Go.Proofs.Ytkpfbgeaodopoaa.fnDirect
