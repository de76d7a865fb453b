/-
  FnDirect: the recogniser: conditionals and asserts.
-/
import Derived.Test.YtkpfbgeaodopoaaDirShapeC0
namespace Go.Proofs.Ytkpfbgeaodopoaa.fnDirect
open Go.RowKit
set_option linter.unusedSimpArgs false
set_option linter.unusedVariables false

set_option maxRecDepth 100000 in
set_option maxHeartbeats 3200000 in
theorem sh_if (a : Addr) (n cap : Nat) (E : Nat → Nd) (hn : n ≤ 400) (i : Nat) (l : List Nat) (w : World) (hi : i < n) (hf : Fit E n) (hkl : kids E i = l) (hl : ∀ k ∈ l, k < n) (hln : l.length ≤ n) (ht : Lies w a n E) (hk : (E i).kind = 21) :
    Calls Try.prog 17 #[.slice (some a) n cap, .int .i64 i] w fun e w' => Yes (Shape E (E i) l) e ∧ Below w.heap.size w w' := by
  have HT := Lib.hid ht
  have HFT := Lib.hid hf
  have HKL := Lib.hid hkl
  have HL := Lib.hid hl
  have HKK := Lib.hid hk
  have hin : (i : Int) < n := by omega
  clear ht hf hkl hl hk
  rcases l with _ | ⟨x, _ | ⟨y, _ | ⟨z, _ | ⟨u, l⟩⟩⟩⟩
  · obtain ⟨q0, q1, q2, q3, q4⟩ := HT.out i hi
    go_enter Try.func17, Try.ntmps17
    go_wp2_with fail
    go_region_held3 (fun w' => w'.cell? (a.add (i * 5)) = some (.int .i64 (E i).kind) ∧ w'.cell? ⟨(a.add (i * 5)).block, (a.add (i * 5)).off + 1, none⟩ = some (.int .i64 (E i).op) ∧ w'.cell? ⟨(a.add (i * 5)).block, (a.add (i * 5)).off + 2, none⟩ = some (.string (E i).text) ∧ w'.cell? ⟨(a.add (i * 5)).block, (a.add (i * 5)).off + 3, none⟩ = some (.int .i64 (E i).flag) ∧ w'.cell? ⟨(a.add (i * 5)).block, (a.add (i * 5)).off + 4, none⟩ = some (.int .i64 (E i).size)) (first | with_reducible exact ⟨q0, q1, q2, q3, q4⟩ | with_reducible exact ⟨cell_past _ q0, cell_past _ q1, cell_past _ q2, cell_past _ q3, cell_past _ q4⟩ | with_reducible exact ⟨past5 (cell_later hb1 q0) n3, past5 (cell_later hb1 q1) n3, past5 (cell_later hb1 q2) n3, past5 (cell_later hb1 q3) n3, past5 (cell_later hb1 q4) n3⟩ | with_reducible exact ⟨cell_later hb1 q0, cell_later hb1 q1, cell_later hb1 q2, cell_later hb1 q3, cell_later hb1 q4⟩ | with_reducible exact ⟨cell_past _ (cell_later hb1 q0), cell_past _ (cell_later hb1 q1), cell_past _ (cell_later hb1 q2), cell_past _ (cell_later hb1 q3), cell_past _ (cell_later hb1 q4)⟩ | with_reducible exact ⟨cell_drew q0, cell_drew q1, cell_drew q2, cell_drew q3, cell_drew q4⟩ | with_reducible exact ⟨cell_drew (cell_past _ q0), cell_drew (cell_past _ q1), cell_drew (cell_past _ q2), cell_drew (cell_past _ q3), cell_drew (cell_past _ q4)⟩) (first | (go_at_call 6; refine (skids_any a n cap E hn i _ HFT.out hi (HT.out.below (by go_grown))).mono ?_; rintro e w1 ⟨v, rfl, hv, h2⟩; rw [HKL.out] at hv; have hb1 : Below w.heap.size w w1 := below_step (Nat.le_refl _) (by go_grown) h2; have n1 := World.new_ne w1 _ (cell_later hb1 q0); obtain ⟨ao, cp, rfl⟩ := owns_slice hv; have HI := Lib.hid hv; clear hv; (try (have hz := kept_new h2 (n := w.heap.size) rfl; obtain ⟨z0, z1, z2, z3, z4, y0, y1, y2, y3, y4⟩ := cells5 hz; have n3 := World.new_ne w _ q0))))
    all_goals
      obtain ⟨W, nb, hW, hnb, HV⟩ : ∃ W nb, W = _ ∧ nb = _ ∧ Hid (SVar (.slice ao ([] : List Nat).length cp) ([] : List Nat) w W nb (E i)) := by first | exact ⟨_, _, rfl, rfl, Lib.hid (svar3 (x := E i) hb1 HI.out hz (by simp))⟩ | exact ⟨_, _, rfl, rfl, Lib.hid (svar2 (x := E i) hb1 HI.out)⟩
      rw [← hW]
      rw [← hnb]
      clear hW hnb
      clear q0 q1 q2 q3 q4 HI
      revert HV
      revert W nb
      revert ao cp
    clear h2 hb1 n1
    rename_i hHeld
    clear hHeld w1
    refine ?join15
    rotate_left
    · exact ?join15
    intro ao cp W nb HV
    obtain ⟨z0, z1, z2, z3, z4, -⟩ := cells5 HV.out.2.2.2
    have hbW := HV.out.2.1
    have HTW := Lib.hid (HT.out.below hbW)
    have HIW := Lib.hid HV.out.1
    clear HV
    rw [HKK.out] at z0
    go_wp2_with fail
    all_goals
      go_ret
      refine ⟨⟨_, rfl, fun h => ?_⟩, by first | exact hbw | exact hbW⟩
      first | (cases h; done) | fail
  · obtain ⟨q0, q1, q2, q3, q4⟩ := HT.out i hi
    go_enter Try.func17, Try.ntmps17
    go_wp2_with fail
    go_region_held3 (fun w' => w'.cell? (a.add (i * 5)) = some (.int .i64 (E i).kind) ∧ w'.cell? ⟨(a.add (i * 5)).block, (a.add (i * 5)).off + 1, none⟩ = some (.int .i64 (E i).op) ∧ w'.cell? ⟨(a.add (i * 5)).block, (a.add (i * 5)).off + 2, none⟩ = some (.string (E i).text) ∧ w'.cell? ⟨(a.add (i * 5)).block, (a.add (i * 5)).off + 3, none⟩ = some (.int .i64 (E i).flag) ∧ w'.cell? ⟨(a.add (i * 5)).block, (a.add (i * 5)).off + 4, none⟩ = some (.int .i64 (E i).size)) (first | with_reducible exact ⟨q0, q1, q2, q3, q4⟩ | with_reducible exact ⟨cell_past _ q0, cell_past _ q1, cell_past _ q2, cell_past _ q3, cell_past _ q4⟩ | with_reducible exact ⟨past5 (cell_later hb1 q0) n3, past5 (cell_later hb1 q1) n3, past5 (cell_later hb1 q2) n3, past5 (cell_later hb1 q3) n3, past5 (cell_later hb1 q4) n3⟩ | with_reducible exact ⟨cell_later hb1 q0, cell_later hb1 q1, cell_later hb1 q2, cell_later hb1 q3, cell_later hb1 q4⟩ | with_reducible exact ⟨cell_past _ (cell_later hb1 q0), cell_past _ (cell_later hb1 q1), cell_past _ (cell_later hb1 q2), cell_past _ (cell_later hb1 q3), cell_past _ (cell_later hb1 q4)⟩ | with_reducible exact ⟨cell_drew q0, cell_drew q1, cell_drew q2, cell_drew q3, cell_drew q4⟩ | with_reducible exact ⟨cell_drew (cell_past _ q0), cell_drew (cell_past _ q1), cell_drew (cell_past _ q2), cell_drew (cell_past _ q3), cell_drew (cell_past _ q4)⟩) (first | (go_at_call 6; refine (skids_any a n cap E hn i _ HFT.out hi (HT.out.below (by go_grown))).mono ?_; rintro e w1 ⟨v, rfl, hv, h2⟩; rw [HKL.out] at hv; have hb1 : Below w.heap.size w w1 := below_step (Nat.le_refl _) (by go_grown) h2; have n1 := World.new_ne w1 _ (cell_later hb1 q0); obtain ⟨ao, cp, rfl⟩ := owns_slice hv; have HI := Lib.hid hv; clear hv; (try (have hz := kept_new h2 (n := w.heap.size) rfl; obtain ⟨z0, z1, z2, z3, z4, y0, y1, y2, y3, y4⟩ := cells5 hz; have n3 := World.new_ne w _ q0))))
    all_goals
      obtain ⟨W, nb, hW, hnb, HV⟩ : ∃ W nb, W = _ ∧ nb = _ ∧ Hid (SVar (.slice ao [x].length cp) [x] w W nb (E i)) := by first | exact ⟨_, _, rfl, rfl, Lib.hid (svar3 (x := E i) hb1 HI.out hz (by simp))⟩ | exact ⟨_, _, rfl, rfl, Lib.hid (svar2 (x := E i) hb1 HI.out)⟩
      rw [← hW]
      rw [← hnb]
      clear hW hnb
      clear q0 q1 q2 q3 q4 HI
      revert HV
      revert W nb
      revert ao cp
    clear h2 hb1 n1
    rename_i hHeld
    clear hHeld w1
    refine ?join16
    rotate_left
    · exact ?join16
    intro ao cp W nb HV
    obtain ⟨z0, z1, z2, z3, z4, -⟩ := cells5 HV.out.2.2.2
    have hbW := HV.out.2.1
    have HTW := Lib.hid (HT.out.below hbW)
    have HIW := Lib.hid HV.out.1
    clear HV
    rw [HKK.out] at z0
    go_wp2_with fail
    all_goals
      go_ret
      refine ⟨⟨_, rfl, fun h => ?_⟩, by first | exact hbw | exact hbW⟩
      first | (cases h; done) | fail
  · obtain ⟨q0, q1, q2, q3, q4⟩ := HT.out i hi
    go_enter Try.func17, Try.ntmps17
    go_wp2_with fail
    go_region_held3 (fun w' => w'.cell? (a.add (i * 5)) = some (.int .i64 (E i).kind) ∧ w'.cell? ⟨(a.add (i * 5)).block, (a.add (i * 5)).off + 1, none⟩ = some (.int .i64 (E i).op) ∧ w'.cell? ⟨(a.add (i * 5)).block, (a.add (i * 5)).off + 2, none⟩ = some (.string (E i).text) ∧ w'.cell? ⟨(a.add (i * 5)).block, (a.add (i * 5)).off + 3, none⟩ = some (.int .i64 (E i).flag) ∧ w'.cell? ⟨(a.add (i * 5)).block, (a.add (i * 5)).off + 4, none⟩ = some (.int .i64 (E i).size)) (first | with_reducible exact ⟨q0, q1, q2, q3, q4⟩ | with_reducible exact ⟨cell_past _ q0, cell_past _ q1, cell_past _ q2, cell_past _ q3, cell_past _ q4⟩ | with_reducible exact ⟨past5 (cell_later hb1 q0) n3, past5 (cell_later hb1 q1) n3, past5 (cell_later hb1 q2) n3, past5 (cell_later hb1 q3) n3, past5 (cell_later hb1 q4) n3⟩ | with_reducible exact ⟨cell_later hb1 q0, cell_later hb1 q1, cell_later hb1 q2, cell_later hb1 q3, cell_later hb1 q4⟩ | with_reducible exact ⟨cell_past _ (cell_later hb1 q0), cell_past _ (cell_later hb1 q1), cell_past _ (cell_later hb1 q2), cell_past _ (cell_later hb1 q3), cell_past _ (cell_later hb1 q4)⟩ | with_reducible exact ⟨cell_drew q0, cell_drew q1, cell_drew q2, cell_drew q3, cell_drew q4⟩ | with_reducible exact ⟨cell_drew (cell_past _ q0), cell_drew (cell_past _ q1), cell_drew (cell_past _ q2), cell_drew (cell_past _ q3), cell_drew (cell_past _ q4)⟩) (first | (go_at_call 6; refine (skids_any a n cap E hn i _ HFT.out hi (HT.out.below (by go_grown))).mono ?_; rintro e w1 ⟨v, rfl, hv, h2⟩; rw [HKL.out] at hv; have hb1 : Below w.heap.size w w1 := below_step (Nat.le_refl _) (by go_grown) h2; have n1 := World.new_ne w1 _ (cell_later hb1 q0); obtain ⟨ao, cp, rfl⟩ := owns_slice hv; have HI := Lib.hid hv; clear hv; (try (have hz := kept_new h2 (n := w.heap.size) rfl; obtain ⟨z0, z1, z2, z3, z4, y0, y1, y2, y3, y4⟩ := cells5 hz; have n3 := World.new_ne w _ q0))))
    all_goals
      obtain ⟨W, nb, hW, hnb, HV⟩ : ∃ W nb, W = _ ∧ nb = _ ∧ Hid (SVar (.slice ao [x, y].length cp) [x, y] w W nb (E i)) := by first | exact ⟨_, _, rfl, rfl, Lib.hid (svar3 (x := E i) hb1 HI.out hz (by simp))⟩ | exact ⟨_, _, rfl, rfl, Lib.hid (svar2 (x := E i) hb1 HI.out)⟩
      rw [← hW]
      rw [← hnb]
      clear hW hnb
      clear q0 q1 q2 q3 q4 HI
      revert HV
      revert W nb
      revert ao cp
    clear h2 hb1 n1
    rename_i hHeld
    clear hHeld w1
    refine ?join17
    rotate_left
    · exact ?join17
    intro ao cp W nb HV
    obtain ⟨z0, z1, z2, z3, z4, -⟩ := cells5 HV.out.2.2.2
    have hbW := HV.out.2.1
    have HTW := Lib.hid (HT.out.below hbW)
    have HIW := Lib.hid HV.out.1
    clear HV
    rw [HKK.out] at z0
    go_wp2_with (go_at_call 27; refine (exprs_yes a n cap E hn [x, y] _ _ HL.out hln HTW.out HIW.out).mono ?_; rintro e w2 ⟨⟨r, rfl, hr⟩, rfl⟩; have HR := Lib.hid hr; clear hr; cases r)
    all_goals
      go_ret
      refine ⟨⟨_, rfl, fun h => ?_⟩, by first | exact hbw | exact hbW⟩
      first | (cases h; done) | exact .if2 x y HKK.out rfl ((HR.out (by first | rfl | trivial)) x (by simp)) ((HR.out (by first | rfl | trivial)) y (by simp))
  · obtain ⟨q0, q1, q2, q3, q4⟩ := HT.out i hi
    go_enter Try.func17, Try.ntmps17
    go_wp2_with fail
    go_region_held3 (fun w' => w'.cell? (a.add (i * 5)) = some (.int .i64 (E i).kind) ∧ w'.cell? ⟨(a.add (i * 5)).block, (a.add (i * 5)).off + 1, none⟩ = some (.int .i64 (E i).op) ∧ w'.cell? ⟨(a.add (i * 5)).block, (a.add (i * 5)).off + 2, none⟩ = some (.string (E i).text) ∧ w'.cell? ⟨(a.add (i * 5)).block, (a.add (i * 5)).off + 3, none⟩ = some (.int .i64 (E i).flag) ∧ w'.cell? ⟨(a.add (i * 5)).block, (a.add (i * 5)).off + 4, none⟩ = some (.int .i64 (E i).size)) (first | with_reducible exact ⟨q0, q1, q2, q3, q4⟩ | with_reducible exact ⟨cell_past _ q0, cell_past _ q1, cell_past _ q2, cell_past _ q3, cell_past _ q4⟩ | with_reducible exact ⟨past5 (cell_later hb1 q0) n3, past5 (cell_later hb1 q1) n3, past5 (cell_later hb1 q2) n3, past5 (cell_later hb1 q3) n3, past5 (cell_later hb1 q4) n3⟩ | with_reducible exact ⟨cell_later hb1 q0, cell_later hb1 q1, cell_later hb1 q2, cell_later hb1 q3, cell_later hb1 q4⟩ | with_reducible exact ⟨cell_past _ (cell_later hb1 q0), cell_past _ (cell_later hb1 q1), cell_past _ (cell_later hb1 q2), cell_past _ (cell_later hb1 q3), cell_past _ (cell_later hb1 q4)⟩ | with_reducible exact ⟨cell_drew q0, cell_drew q1, cell_drew q2, cell_drew q3, cell_drew q4⟩ | with_reducible exact ⟨cell_drew (cell_past _ q0), cell_drew (cell_past _ q1), cell_drew (cell_past _ q2), cell_drew (cell_past _ q3), cell_drew (cell_past _ q4)⟩) (first | (go_at_call 6; refine (skids_any a n cap E hn i _ HFT.out hi (HT.out.below (by go_grown))).mono ?_; rintro e w1 ⟨v, rfl, hv, h2⟩; rw [HKL.out] at hv; have hb1 : Below w.heap.size w w1 := below_step (Nat.le_refl _) (by go_grown) h2; have n1 := World.new_ne w1 _ (cell_later hb1 q0); obtain ⟨ao, cp, rfl⟩ := owns_slice hv; have HI := Lib.hid hv; clear hv; (try (have hz := kept_new h2 (n := w.heap.size) rfl; obtain ⟨z0, z1, z2, z3, z4, y0, y1, y2, y3, y4⟩ := cells5 hz; have n3 := World.new_ne w _ q0))))
    all_goals
      obtain ⟨W, nb, hW, hnb, HV⟩ : ∃ W nb, W = _ ∧ nb = _ ∧ Hid (SVar (.slice ao [x, y, z].length cp) [x, y, z] w W nb (E i)) := by first | exact ⟨_, _, rfl, rfl, Lib.hid (svar3 (x := E i) hb1 HI.out hz (by simp))⟩ | exact ⟨_, _, rfl, rfl, Lib.hid (svar2 (x := E i) hb1 HI.out)⟩
      rw [← hW]
      rw [← hnb]
      clear hW hnb
      clear q0 q1 q2 q3 q4 HI
      revert HV
      revert W nb
      revert ao cp
    clear h2 hb1 n1
    rename_i hHeld
    clear hHeld w1
    refine ?join18
    rotate_left
    · exact ?join18
    intro ao cp W nb HV
    obtain ⟨z0, z1, z2, z3, z4, -⟩ := cells5 HV.out.2.2.2
    have hbW := HV.out.2.1
    have HTW := Lib.hid (HT.out.below hbW)
    have HIW := Lib.hid HV.out.1
    clear HV
    rw [HKK.out] at z0
    go_wp2_with (go_at_call 27; refine (exprs_yes a n cap E hn [x, y, z] _ _ HL.out hln HTW.out HIW.out).mono ?_; rintro e w2 ⟨⟨r, rfl, hr⟩, rfl⟩; have HR := Lib.hid hr; clear hr; cases r)
    all_goals
      go_ret
      refine ⟨⟨_, rfl, fun h => ?_⟩, by first | exact hbw | exact hbW⟩
      first | (cases h; done) | exact .if3 x y z HKK.out rfl ((HR.out (by first | rfl | trivial)) x (by simp)) ((HR.out (by first | rfl | trivial)) y (by simp)) ((HR.out (by first | rfl | trivial)) z (by simp))
  · obtain ⟨q0, q1, q2, q3, q4⟩ := HT.out i hi
    go_enter Try.func17, Try.ntmps17
    go_wp2_with fail
    go_region_held3 (fun w' => w'.cell? (a.add (i * 5)) = some (.int .i64 (E i).kind) ∧ w'.cell? ⟨(a.add (i * 5)).block, (a.add (i * 5)).off + 1, none⟩ = some (.int .i64 (E i).op) ∧ w'.cell? ⟨(a.add (i * 5)).block, (a.add (i * 5)).off + 2, none⟩ = some (.string (E i).text) ∧ w'.cell? ⟨(a.add (i * 5)).block, (a.add (i * 5)).off + 3, none⟩ = some (.int .i64 (E i).flag) ∧ w'.cell? ⟨(a.add (i * 5)).block, (a.add (i * 5)).off + 4, none⟩ = some (.int .i64 (E i).size)) (first | with_reducible exact ⟨q0, q1, q2, q3, q4⟩ | with_reducible exact ⟨cell_past _ q0, cell_past _ q1, cell_past _ q2, cell_past _ q3, cell_past _ q4⟩ | with_reducible exact ⟨past5 (cell_later hb1 q0) n3, past5 (cell_later hb1 q1) n3, past5 (cell_later hb1 q2) n3, past5 (cell_later hb1 q3) n3, past5 (cell_later hb1 q4) n3⟩ | with_reducible exact ⟨cell_later hb1 q0, cell_later hb1 q1, cell_later hb1 q2, cell_later hb1 q3, cell_later hb1 q4⟩ | with_reducible exact ⟨cell_past _ (cell_later hb1 q0), cell_past _ (cell_later hb1 q1), cell_past _ (cell_later hb1 q2), cell_past _ (cell_later hb1 q3), cell_past _ (cell_later hb1 q4)⟩ | with_reducible exact ⟨cell_drew q0, cell_drew q1, cell_drew q2, cell_drew q3, cell_drew q4⟩ | with_reducible exact ⟨cell_drew (cell_past _ q0), cell_drew (cell_past _ q1), cell_drew (cell_past _ q2), cell_drew (cell_past _ q3), cell_drew (cell_past _ q4)⟩) (first | (go_at_call 6; refine (skids_any a n cap E hn i _ HFT.out hi (HT.out.below (by go_grown))).mono ?_; rintro e w1 ⟨v, rfl, hv, h2⟩; rw [HKL.out] at hv; have hb1 : Below w.heap.size w w1 := below_step (Nat.le_refl _) (by go_grown) h2; have n1 := World.new_ne w1 _ (cell_later hb1 q0); obtain ⟨ao, cp, rfl⟩ := owns_slice hv; have HI := Lib.hid hv; clear hv; (try (have hz := kept_new h2 (n := w.heap.size) rfl; obtain ⟨z0, z1, z2, z3, z4, y0, y1, y2, y3, y4⟩ := cells5 hz; have n3 := World.new_ne w _ q0))))
    all_goals
      obtain ⟨W, nb, hW, hnb, HV⟩ : ∃ W nb, W = _ ∧ nb = _ ∧ Hid (SVar (.slice ao (x :: y :: z :: u :: l).length cp) (x :: y :: z :: u :: l) w W nb (E i)) := by first | exact ⟨_, _, rfl, rfl, Lib.hid (svar3 (x := E i) hb1 HI.out hz (by simp))⟩ | exact ⟨_, _, rfl, rfl, Lib.hid (svar2 (x := E i) hb1 HI.out)⟩
      rw [← hW]
      rw [← hnb]
      clear hW hnb
      clear q0 q1 q2 q3 q4 HI
      revert HV
      revert W nb
      revert ao cp
    clear h2 hb1 n1
    rename_i hHeld
    clear hHeld w1
    refine ?join19
    rotate_left
    · exact ?join19
    intro ao cp W nb HV
    obtain ⟨z0, z1, z2, z3, z4, -⟩ := cells5 HV.out.2.2.2
    have hbW := HV.out.2.1
    have HTW := Lib.hid (HT.out.below hbW)
    have HIW := Lib.hid HV.out.1
    clear HV
    have dq2 : ((l.length : Int) + 1 + 1 + 1 + 1 == 2) = false := by simp; omega
    have dr2 : ¬ (l.length : Int) + 1 + 1 + 1 + 1 = 2 := by omega
    have dq3 : ((l.length : Int) + 1 + 1 + 1 + 1 == 3) = false := by simp; omega
    have dr3 : ¬ (l.length : Int) + 1 + 1 + 1 + 1 = 3 := by omega
    rw [HKK.out] at z0
    go_wp2_with fail
    all_goals
      go_ret
      refine ⟨⟨_, rfl, fun h => ?_⟩, by first | exact hbw | exact hbW⟩
      first | (cases h; done) | fail

set_option maxRecDepth 100000 in
set_option maxHeartbeats 3200000 in
theorem sh_25_0 (a : Addr) (n cap : Nat) (E : Nat → Nd) (hn : n ≤ 400) (i : Nat) (l : List Nat) (w : World) (hi : i < n) (hf : Fit E n) (hkl : kids E i = l) (hl : ∀ k ∈ l, k < n) (hln : l.length ≤ n) (ht : Lies w a n E) (hk : (E i).kind = 25) (hfl : (E i).flag = 0) :
    Calls Try.prog 17 #[.slice (some a) n cap, .int .i64 i] w fun e w' => Yes (Shape E (E i) l) e ∧ Below w.heap.size w w' := by
  have HT := Lib.hid ht
  have HFT := Lib.hid hf
  have HKL := Lib.hid hkl
  have HL := Lib.hid hl
  have HKK := Lib.hid hk
  have hin : (i : Int) < n := by omega
  clear ht hf hkl hl hk
  have HFL := Lib.hid hfl
  clear hfl
  rcases l with _ | ⟨x, _ | ⟨y, _ | ⟨z, l⟩⟩⟩
  · obtain ⟨q0, q1, q2, q3, q4⟩ := HT.out i hi
    go_enter Try.func17, Try.ntmps17
    go_wp2_with fail
    go_region_held3 (fun w' => w'.cell? (a.add (i * 5)) = some (.int .i64 (E i).kind) ∧ w'.cell? ⟨(a.add (i * 5)).block, (a.add (i * 5)).off + 1, none⟩ = some (.int .i64 (E i).op) ∧ w'.cell? ⟨(a.add (i * 5)).block, (a.add (i * 5)).off + 2, none⟩ = some (.string (E i).text) ∧ w'.cell? ⟨(a.add (i * 5)).block, (a.add (i * 5)).off + 3, none⟩ = some (.int .i64 (E i).flag) ∧ w'.cell? ⟨(a.add (i * 5)).block, (a.add (i * 5)).off + 4, none⟩ = some (.int .i64 (E i).size)) (first | with_reducible exact ⟨q0, q1, q2, q3, q4⟩ | with_reducible exact ⟨cell_past _ q0, cell_past _ q1, cell_past _ q2, cell_past _ q3, cell_past _ q4⟩ | with_reducible exact ⟨past5 (cell_later hb1 q0) n3, past5 (cell_later hb1 q1) n3, past5 (cell_later hb1 q2) n3, past5 (cell_later hb1 q3) n3, past5 (cell_later hb1 q4) n3⟩ | with_reducible exact ⟨cell_later hb1 q0, cell_later hb1 q1, cell_later hb1 q2, cell_later hb1 q3, cell_later hb1 q4⟩ | with_reducible exact ⟨cell_past _ (cell_later hb1 q0), cell_past _ (cell_later hb1 q1), cell_past _ (cell_later hb1 q2), cell_past _ (cell_later hb1 q3), cell_past _ (cell_later hb1 q4)⟩ | with_reducible exact ⟨cell_drew q0, cell_drew q1, cell_drew q2, cell_drew q3, cell_drew q4⟩ | with_reducible exact ⟨cell_drew (cell_past _ q0), cell_drew (cell_past _ q1), cell_drew (cell_past _ q2), cell_drew (cell_past _ q3), cell_drew (cell_past _ q4)⟩) (first | (go_at_call 6; refine (skids_any a n cap E hn i _ HFT.out hi (HT.out.below (by go_grown))).mono ?_; rintro e w1 ⟨v, rfl, hv, h2⟩; rw [HKL.out] at hv; have hb1 : Below w.heap.size w w1 := below_step (Nat.le_refl _) (by go_grown) h2; have n1 := World.new_ne w1 _ (cell_later hb1 q0); obtain ⟨ao, cp, rfl⟩ := owns_slice hv; have HI := Lib.hid hv; clear hv; (try (have hz := kept_new h2 (n := w.heap.size) rfl; obtain ⟨z0, z1, z2, z3, z4, y0, y1, y2, y3, y4⟩ := cells5 hz; have n3 := World.new_ne w _ q0))))
    all_goals
      obtain ⟨W, nb, hW, hnb, HV⟩ : ∃ W nb, W = _ ∧ nb = _ ∧ Hid (SVar (.slice ao ([] : List Nat).length cp) ([] : List Nat) w W nb (E i)) := by first | exact ⟨_, _, rfl, rfl, Lib.hid (svar3 (x := E i) hb1 HI.out hz (by simp))⟩ | exact ⟨_, _, rfl, rfl, Lib.hid (svar2 (x := E i) hb1 HI.out)⟩
      rw [← hW]
      rw [← hnb]
      clear hW hnb
      clear q0 q1 q2 q3 q4 HI
      revert HV
      revert W nb
      revert ao cp
    clear h2 hb1 n1
    rename_i hHeld
    clear hHeld w1
    refine ?join20
    rotate_left
    · exact ?join20
    intro ao cp W nb HV
    obtain ⟨z0, z1, z2, z3, z4, -⟩ := cells5 HV.out.2.2.2
    have hbW := HV.out.2.1
    have HTW := Lib.hid (HT.out.below hbW)
    have HIW := Lib.hid HV.out.1
    clear HV
    rw [HKK.out] at z0
    rw [HFL.out] at z3
    go_wp2_with fail
    all_goals
      go_ret
      refine ⟨⟨_, rfl, fun h => ?_⟩, by first | exact hbw | exact hbW⟩
      first | (cases h; done) | fail
  · obtain ⟨q0, q1, q2, q3, q4⟩ := HT.out i hi
    go_enter Try.func17, Try.ntmps17
    go_wp2_with fail
    go_region_held3 (fun w' => w'.cell? (a.add (i * 5)) = some (.int .i64 (E i).kind) ∧ w'.cell? ⟨(a.add (i * 5)).block, (a.add (i * 5)).off + 1, none⟩ = some (.int .i64 (E i).op) ∧ w'.cell? ⟨(a.add (i * 5)).block, (a.add (i * 5)).off + 2, none⟩ = some (.string (E i).text) ∧ w'.cell? ⟨(a.add (i * 5)).block, (a.add (i * 5)).off + 3, none⟩ = some (.int .i64 (E i).flag) ∧ w'.cell? ⟨(a.add (i * 5)).block, (a.add (i * 5)).off + 4, none⟩ = some (.int .i64 (E i).size)) (first | with_reducible exact ⟨q0, q1, q2, q3, q4⟩ | with_reducible exact ⟨cell_past _ q0, cell_past _ q1, cell_past _ q2, cell_past _ q3, cell_past _ q4⟩ | with_reducible exact ⟨past5 (cell_later hb1 q0) n3, past5 (cell_later hb1 q1) n3, past5 (cell_later hb1 q2) n3, past5 (cell_later hb1 q3) n3, past5 (cell_later hb1 q4) n3⟩ | with_reducible exact ⟨cell_later hb1 q0, cell_later hb1 q1, cell_later hb1 q2, cell_later hb1 q3, cell_later hb1 q4⟩ | with_reducible exact ⟨cell_past _ (cell_later hb1 q0), cell_past _ (cell_later hb1 q1), cell_past _ (cell_later hb1 q2), cell_past _ (cell_later hb1 q3), cell_past _ (cell_later hb1 q4)⟩ | with_reducible exact ⟨cell_drew q0, cell_drew q1, cell_drew q2, cell_drew q3, cell_drew q4⟩ | with_reducible exact ⟨cell_drew (cell_past _ q0), cell_drew (cell_past _ q1), cell_drew (cell_past _ q2), cell_drew (cell_past _ q3), cell_drew (cell_past _ q4)⟩) (first | (go_at_call 6; refine (skids_any a n cap E hn i _ HFT.out hi (HT.out.below (by go_grown))).mono ?_; rintro e w1 ⟨v, rfl, hv, h2⟩; rw [HKL.out] at hv; have hb1 : Below w.heap.size w w1 := below_step (Nat.le_refl _) (by go_grown) h2; have n1 := World.new_ne w1 _ (cell_later hb1 q0); obtain ⟨ao, cp, rfl⟩ := owns_slice hv; have HI := Lib.hid hv; clear hv; (try (have hz := kept_new h2 (n := w.heap.size) rfl; obtain ⟨z0, z1, z2, z3, z4, y0, y1, y2, y3, y4⟩ := cells5 hz; have n3 := World.new_ne w _ q0))))
    all_goals
      obtain ⟨W, nb, hW, hnb, HV⟩ : ∃ W nb, W = _ ∧ nb = _ ∧ Hid (SVar (.slice ao [x].length cp) [x] w W nb (E i)) := by first | exact ⟨_, _, rfl, rfl, Lib.hid (svar3 (x := E i) hb1 HI.out hz (by simp))⟩ | exact ⟨_, _, rfl, rfl, Lib.hid (svar2 (x := E i) hb1 HI.out)⟩
      rw [← hW]
      rw [← hnb]
      clear hW hnb
      clear q0 q1 q2 q3 q4 HI
      revert HV
      revert W nb
      revert ao cp
    clear h2 hb1 n1
    rename_i hHeld
    clear hHeld w1
    refine ?join21
    rotate_left
    · exact ?join21
    intro ao cp W nb HV
    obtain ⟨z0, z1, z2, z3, z4, -⟩ := cells5 HV.out.2.2.2
    have hbW := HV.out.2.1
    have HTW := Lib.hid (HT.out.below hbW)
    have HIW := Lib.hid HV.out.1
    clear HV
    rw [HKK.out] at z0
    rw [HFL.out] at z3
    go_wp2_with fail
    all_goals
      go_ret
      refine ⟨⟨_, rfl, fun h => ?_⟩, by first | exact hbw | exact hbW⟩
      first | (cases h; done) | fail
  · obtain ⟨q0, q1, q2, q3, q4⟩ := HT.out i hi
    go_enter Try.func17, Try.ntmps17
    go_wp2_with fail
    go_region_held3 (fun w' => w'.cell? (a.add (i * 5)) = some (.int .i64 (E i).kind) ∧ w'.cell? ⟨(a.add (i * 5)).block, (a.add (i * 5)).off + 1, none⟩ = some (.int .i64 (E i).op) ∧ w'.cell? ⟨(a.add (i * 5)).block, (a.add (i * 5)).off + 2, none⟩ = some (.string (E i).text) ∧ w'.cell? ⟨(a.add (i * 5)).block, (a.add (i * 5)).off + 3, none⟩ = some (.int .i64 (E i).flag) ∧ w'.cell? ⟨(a.add (i * 5)).block, (a.add (i * 5)).off + 4, none⟩ = some (.int .i64 (E i).size)) (first | with_reducible exact ⟨q0, q1, q2, q3, q4⟩ | with_reducible exact ⟨cell_past _ q0, cell_past _ q1, cell_past _ q2, cell_past _ q3, cell_past _ q4⟩ | with_reducible exact ⟨past5 (cell_later hb1 q0) n3, past5 (cell_later hb1 q1) n3, past5 (cell_later hb1 q2) n3, past5 (cell_later hb1 q3) n3, past5 (cell_later hb1 q4) n3⟩ | with_reducible exact ⟨cell_later hb1 q0, cell_later hb1 q1, cell_later hb1 q2, cell_later hb1 q3, cell_later hb1 q4⟩ | with_reducible exact ⟨cell_past _ (cell_later hb1 q0), cell_past _ (cell_later hb1 q1), cell_past _ (cell_later hb1 q2), cell_past _ (cell_later hb1 q3), cell_past _ (cell_later hb1 q4)⟩ | with_reducible exact ⟨cell_drew q0, cell_drew q1, cell_drew q2, cell_drew q3, cell_drew q4⟩ | with_reducible exact ⟨cell_drew (cell_past _ q0), cell_drew (cell_past _ q1), cell_drew (cell_past _ q2), cell_drew (cell_past _ q3), cell_drew (cell_past _ q4)⟩) (first | (go_at_call 6; refine (skids_any a n cap E hn i _ HFT.out hi (HT.out.below (by go_grown))).mono ?_; rintro e w1 ⟨v, rfl, hv, h2⟩; rw [HKL.out] at hv; have hb1 : Below w.heap.size w w1 := below_step (Nat.le_refl _) (by go_grown) h2; have n1 := World.new_ne w1 _ (cell_later hb1 q0); obtain ⟨ao, cp, rfl⟩ := owns_slice hv; have HI := Lib.hid hv; clear hv; (try (have hz := kept_new h2 (n := w.heap.size) rfl; obtain ⟨z0, z1, z2, z3, z4, y0, y1, y2, y3, y4⟩ := cells5 hz; have n3 := World.new_ne w _ q0))))
    all_goals
      obtain ⟨W, nb, hW, hnb, HV⟩ : ∃ W nb, W = _ ∧ nb = _ ∧ Hid (SVar (.slice ao [x, y].length cp) [x, y] w W nb (E i)) := by first | exact ⟨_, _, rfl, rfl, Lib.hid (svar3 (x := E i) hb1 HI.out hz (by simp))⟩ | exact ⟨_, _, rfl, rfl, Lib.hid (svar2 (x := E i) hb1 HI.out)⟩
      rw [← hW]
      rw [← hnb]
      clear hW hnb
      clear q0 q1 q2 q3 q4 HI
      revert HV
      revert W nb
      revert ao cp
    clear h2 hb1 n1
    rename_i hHeld
    clear hHeld w1
    refine ?join22
    rotate_left
    · exact ?join22
    intro ao cp W nb HV
    obtain ⟨z0, z1, z2, z3, z4, -⟩ := cells5 HV.out.2.2.2
    have hbW := HV.out.2.1
    have HTW := Lib.hid (HT.out.below hbW)
    have HIW := Lib.hid HV.out.1
    clear HV
    rw [HKK.out] at z0
    rw [HFL.out] at z3
    go_wp2_with (go_at_call 27; refine (exprs_yes a n cap E hn [x, y] _ _ HL.out hln HTW.out HIW.out).mono ?_; rintro e w2 ⟨⟨r, rfl, hr⟩, rfl⟩; have HR := Lib.hid hr; clear hr; cases r)
    all_goals
      go_ret
      refine ⟨⟨_, rfl, fun h => ?_⟩, by first | exact hbw | exact hbW⟩
      first | (cases h; done) | exact .assert2 x y HKK.out HFL.out rfl ((HR.out (by first | rfl | trivial)) x (by simp)) ((HR.out (by first | rfl | trivial)) y (by simp))
  · obtain ⟨q0, q1, q2, q3, q4⟩ := HT.out i hi
    go_enter Try.func17, Try.ntmps17
    go_wp2_with fail
    go_region_held3 (fun w' => w'.cell? (a.add (i * 5)) = some (.int .i64 (E i).kind) ∧ w'.cell? ⟨(a.add (i * 5)).block, (a.add (i * 5)).off + 1, none⟩ = some (.int .i64 (E i).op) ∧ w'.cell? ⟨(a.add (i * 5)).block, (a.add (i * 5)).off + 2, none⟩ = some (.string (E i).text) ∧ w'.cell? ⟨(a.add (i * 5)).block, (a.add (i * 5)).off + 3, none⟩ = some (.int .i64 (E i).flag) ∧ w'.cell? ⟨(a.add (i * 5)).block, (a.add (i * 5)).off + 4, none⟩ = some (.int .i64 (E i).size)) (first | with_reducible exact ⟨q0, q1, q2, q3, q4⟩ | with_reducible exact ⟨cell_past _ q0, cell_past _ q1, cell_past _ q2, cell_past _ q3, cell_past _ q4⟩ | with_reducible exact ⟨past5 (cell_later hb1 q0) n3, past5 (cell_later hb1 q1) n3, past5 (cell_later hb1 q2) n3, past5 (cell_later hb1 q3) n3, past5 (cell_later hb1 q4) n3⟩ | with_reducible exact ⟨cell_later hb1 q0, cell_later hb1 q1, cell_later hb1 q2, cell_later hb1 q3, cell_later hb1 q4⟩ | with_reducible exact ⟨cell_past _ (cell_later hb1 q0), cell_past _ (cell_later hb1 q1), cell_past _ (cell_later hb1 q2), cell_past _ (cell_later hb1 q3), cell_past _ (cell_later hb1 q4)⟩ | with_reducible exact ⟨cell_drew q0, cell_drew q1, cell_drew q2, cell_drew q3, cell_drew q4⟩ | with_reducible exact ⟨cell_drew (cell_past _ q0), cell_drew (cell_past _ q1), cell_drew (cell_past _ q2), cell_drew (cell_past _ q3), cell_drew (cell_past _ q4)⟩) (first | (go_at_call 6; refine (skids_any a n cap E hn i _ HFT.out hi (HT.out.below (by go_grown))).mono ?_; rintro e w1 ⟨v, rfl, hv, h2⟩; rw [HKL.out] at hv; have hb1 : Below w.heap.size w w1 := below_step (Nat.le_refl _) (by go_grown) h2; have n1 := World.new_ne w1 _ (cell_later hb1 q0); obtain ⟨ao, cp, rfl⟩ := owns_slice hv; have HI := Lib.hid hv; clear hv; (try (have hz := kept_new h2 (n := w.heap.size) rfl; obtain ⟨z0, z1, z2, z3, z4, y0, y1, y2, y3, y4⟩ := cells5 hz; have n3 := World.new_ne w _ q0))))
    all_goals
      obtain ⟨W, nb, hW, hnb, HV⟩ : ∃ W nb, W = _ ∧ nb = _ ∧ Hid (SVar (.slice ao (x :: y :: z :: l).length cp) (x :: y :: z :: l) w W nb (E i)) := by first | exact ⟨_, _, rfl, rfl, Lib.hid (svar3 (x := E i) hb1 HI.out hz (by simp))⟩ | exact ⟨_, _, rfl, rfl, Lib.hid (svar2 (x := E i) hb1 HI.out)⟩
      rw [← hW]
      rw [← hnb]
      clear hW hnb
      clear q0 q1 q2 q3 q4 HI
      revert HV
      revert W nb
      revert ao cp
    clear h2 hb1 n1
    rename_i hHeld
    clear hHeld w1
    refine ?join23
    rotate_left
    · exact ?join23
    intro ao cp W nb HV
    obtain ⟨z0, z1, z2, z3, z4, -⟩ := cells5 HV.out.2.2.2
    have hbW := HV.out.2.1
    have HTW := Lib.hid (HT.out.below hbW)
    have HIW := Lib.hid HV.out.1
    clear HV
    have dq2 : ((l.length : Int) + 1 + 1 + 1 == 2) = false := by simp; omega
    have dr2 : ¬ (l.length : Int) + 1 + 1 + 1 = 2 := by omega
    rw [HKK.out] at z0
    rw [HFL.out] at z3
    go_wp2_with fail
    all_goals
      go_ret
      refine ⟨⟨_, rfl, fun h => ?_⟩, by first | exact hbw | exact hbW⟩
      first | (cases h; done) | fail

set_option maxRecDepth 100000 in
set_option maxHeartbeats 3200000 in
theorem sh_25_1 (a : Addr) (n cap : Nat) (E : Nat → Nd) (hn : n ≤ 400) (i : Nat) (l : List Nat) (w : World) (hi : i < n) (hf : Fit E n) (hkl : kids E i = l) (hl : ∀ k ∈ l, k < n) (hln : l.length ≤ n) (ht : Lies w a n E) (hk : (E i).kind = 25) (hfl : (E i).flag = 1) :
    Calls Try.prog 17 #[.slice (some a) n cap, .int .i64 i] w fun e w' => Yes (Shape E (E i) l) e ∧ Below w.heap.size w w' := by
  have HT := Lib.hid ht
  have HFT := Lib.hid hf
  have HKL := Lib.hid hkl
  have HL := Lib.hid hl
  have HKK := Lib.hid hk
  have hin : (i : Int) < n := by omega
  clear ht hf hkl hl hk
  have HFL := Lib.hid hfl
  clear hfl
  rcases l with _ | ⟨x, _ | ⟨y, _ | ⟨z, _ | ⟨u, l⟩⟩⟩⟩
  · obtain ⟨q0, q1, q2, q3, q4⟩ := HT.out i hi
    go_enter Try.func17, Try.ntmps17
    go_wp2_with fail
    go_region_held3 (fun w' => w'.cell? (a.add (i * 5)) = some (.int .i64 (E i).kind) ∧ w'.cell? ⟨(a.add (i * 5)).block, (a.add (i * 5)).off + 1, none⟩ = some (.int .i64 (E i).op) ∧ w'.cell? ⟨(a.add (i * 5)).block, (a.add (i * 5)).off + 2, none⟩ = some (.string (E i).text) ∧ w'.cell? ⟨(a.add (i * 5)).block, (a.add (i * 5)).off + 3, none⟩ = some (.int .i64 (E i).flag) ∧ w'.cell? ⟨(a.add (i * 5)).block, (a.add (i * 5)).off + 4, none⟩ = some (.int .i64 (E i).size)) (first | with_reducible exact ⟨q0, q1, q2, q3, q4⟩ | with_reducible exact ⟨cell_past _ q0, cell_past _ q1, cell_past _ q2, cell_past _ q3, cell_past _ q4⟩ | with_reducible exact ⟨past5 (cell_later hb1 q0) n3, past5 (cell_later hb1 q1) n3, past5 (cell_later hb1 q2) n3, past5 (cell_later hb1 q3) n3, past5 (cell_later hb1 q4) n3⟩ | with_reducible exact ⟨cell_later hb1 q0, cell_later hb1 q1, cell_later hb1 q2, cell_later hb1 q3, cell_later hb1 q4⟩ | with_reducible exact ⟨cell_past _ (cell_later hb1 q0), cell_past _ (cell_later hb1 q1), cell_past _ (cell_later hb1 q2), cell_past _ (cell_later hb1 q3), cell_past _ (cell_later hb1 q4)⟩ | with_reducible exact ⟨cell_drew q0, cell_drew q1, cell_drew q2, cell_drew q3, cell_drew q4⟩ | with_reducible exact ⟨cell_drew (cell_past _ q0), cell_drew (cell_past _ q1), cell_drew (cell_past _ q2), cell_drew (cell_past _ q3), cell_drew (cell_past _ q4)⟩) (first | (go_at_call 6; refine (skids_any a n cap E hn i _ HFT.out hi (HT.out.below (by go_grown))).mono ?_; rintro e w1 ⟨v, rfl, hv, h2⟩; rw [HKL.out] at hv; have hb1 : Below w.heap.size w w1 := below_step (Nat.le_refl _) (by go_grown) h2; have n1 := World.new_ne w1 _ (cell_later hb1 q0); obtain ⟨ao, cp, rfl⟩ := owns_slice hv; have HI := Lib.hid hv; clear hv; (try (have hz := kept_new h2 (n := w.heap.size) rfl; obtain ⟨z0, z1, z2, z3, z4, y0, y1, y2, y3, y4⟩ := cells5 hz; have n3 := World.new_ne w _ q0))))
    all_goals
      obtain ⟨W, nb, hW, hnb, HV⟩ : ∃ W nb, W = _ ∧ nb = _ ∧ Hid (SVar (.slice ao ([] : List Nat).length cp) ([] : List Nat) w W nb (E i)) := by first | exact ⟨_, _, rfl, rfl, Lib.hid (svar3 (x := E i) hb1 HI.out hz (by simp))⟩ | exact ⟨_, _, rfl, rfl, Lib.hid (svar2 (x := E i) hb1 HI.out)⟩
      rw [← hW]
      rw [← hnb]
      clear hW hnb
      clear q0 q1 q2 q3 q4 HI
      revert HV
      revert W nb
      revert ao cp
    clear h2 hb1 n1
    rename_i hHeld
    clear hHeld w1
    refine ?join24
    rotate_left
    · exact ?join24
    intro ao cp W nb HV
    obtain ⟨z0, z1, z2, z3, z4, -⟩ := cells5 HV.out.2.2.2
    have hbW := HV.out.2.1
    have HTW := Lib.hid (HT.out.below hbW)
    have HIW := Lib.hid HV.out.1
    clear HV
    rw [HKK.out] at z0
    rw [HFL.out] at z3
    go_wp2_with fail
    all_goals
      go_ret
      refine ⟨⟨_, rfl, fun h => ?_⟩, by first | exact hbw | exact hbW⟩
      first | (cases h; done) | fail
  · obtain ⟨q0, q1, q2, q3, q4⟩ := HT.out i hi
    go_enter Try.func17, Try.ntmps17
    go_wp2_with fail
    go_region_held3 (fun w' => w'.cell? (a.add (i * 5)) = some (.int .i64 (E i).kind) ∧ w'.cell? ⟨(a.add (i * 5)).block, (a.add (i * 5)).off + 1, none⟩ = some (.int .i64 (E i).op) ∧ w'.cell? ⟨(a.add (i * 5)).block, (a.add (i * 5)).off + 2, none⟩ = some (.string (E i).text) ∧ w'.cell? ⟨(a.add (i * 5)).block, (a.add (i * 5)).off + 3, none⟩ = some (.int .i64 (E i).flag) ∧ w'.cell? ⟨(a.add (i * 5)).block, (a.add (i * 5)).off + 4, none⟩ = some (.int .i64 (E i).size)) (first | with_reducible exact ⟨q0, q1, q2, q3, q4⟩ | with_reducible exact ⟨cell_past _ q0, cell_past _ q1, cell_past _ q2, cell_past _ q3, cell_past _ q4⟩ | with_reducible exact ⟨past5 (cell_later hb1 q0) n3, past5 (cell_later hb1 q1) n3, past5 (cell_later hb1 q2) n3, past5 (cell_later hb1 q3) n3, past5 (cell_later hb1 q4) n3⟩ | with_reducible exact ⟨cell_later hb1 q0, cell_later hb1 q1, cell_later hb1 q2, cell_later hb1 q3, cell_later hb1 q4⟩ | with_reducible exact ⟨cell_past _ (cell_later hb1 q0), cell_past _ (cell_later hb1 q1), cell_past _ (cell_later hb1 q2), cell_past _ (cell_later hb1 q3), cell_past _ (cell_later hb1 q4)⟩ | with_reducible exact ⟨cell_drew q0, cell_drew q1, cell_drew q2, cell_drew q3, cell_drew q4⟩ | with_reducible exact ⟨cell_drew (cell_past _ q0), cell_drew (cell_past _ q1), cell_drew (cell_past _ q2), cell_drew (cell_past _ q3), cell_drew (cell_past _ q4)⟩) (first | (go_at_call 6; refine (skids_any a n cap E hn i _ HFT.out hi (HT.out.below (by go_grown))).mono ?_; rintro e w1 ⟨v, rfl, hv, h2⟩; rw [HKL.out] at hv; have hb1 : Below w.heap.size w w1 := below_step (Nat.le_refl _) (by go_grown) h2; have n1 := World.new_ne w1 _ (cell_later hb1 q0); obtain ⟨ao, cp, rfl⟩ := owns_slice hv; have HI := Lib.hid hv; clear hv; (try (have hz := kept_new h2 (n := w.heap.size) rfl; obtain ⟨z0, z1, z2, z3, z4, y0, y1, y2, y3, y4⟩ := cells5 hz; have n3 := World.new_ne w _ q0))))
    all_goals
      obtain ⟨W, nb, hW, hnb, HV⟩ : ∃ W nb, W = _ ∧ nb = _ ∧ Hid (SVar (.slice ao [x].length cp) [x] w W nb (E i)) := by first | exact ⟨_, _, rfl, rfl, Lib.hid (svar3 (x := E i) hb1 HI.out hz (by simp))⟩ | exact ⟨_, _, rfl, rfl, Lib.hid (svar2 (x := E i) hb1 HI.out)⟩
      rw [← hW]
      rw [← hnb]
      clear hW hnb
      clear q0 q1 q2 q3 q4 HI
      revert HV
      revert W nb
      revert ao cp
    clear h2 hb1 n1
    rename_i hHeld
    clear hHeld w1
    refine ?join25
    rotate_left
    · exact ?join25
    intro ao cp W nb HV
    obtain ⟨z0, z1, z2, z3, z4, -⟩ := cells5 HV.out.2.2.2
    have hbW := HV.out.2.1
    have HTW := Lib.hid (HT.out.below hbW)
    have HIW := Lib.hid HV.out.1
    clear HV
    rw [HKK.out] at z0
    rw [HFL.out] at z3
    go_wp2_with fail
    all_goals
      go_ret
      refine ⟨⟨_, rfl, fun h => ?_⟩, by first | exact hbw | exact hbW⟩
      first | (cases h; done) | fail
  · obtain ⟨q0, q1, q2, q3, q4⟩ := HT.out i hi
    go_enter Try.func17, Try.ntmps17
    go_wp2_with fail
    go_region_held3 (fun w' => w'.cell? (a.add (i * 5)) = some (.int .i64 (E i).kind) ∧ w'.cell? ⟨(a.add (i * 5)).block, (a.add (i * 5)).off + 1, none⟩ = some (.int .i64 (E i).op) ∧ w'.cell? ⟨(a.add (i * 5)).block, (a.add (i * 5)).off + 2, none⟩ = some (.string (E i).text) ∧ w'.cell? ⟨(a.add (i * 5)).block, (a.add (i * 5)).off + 3, none⟩ = some (.int .i64 (E i).flag) ∧ w'.cell? ⟨(a.add (i * 5)).block, (a.add (i * 5)).off + 4, none⟩ = some (.int .i64 (E i).size)) (first | with_reducible exact ⟨q0, q1, q2, q3, q4⟩ | with_reducible exact ⟨cell_past _ q0, cell_past _ q1, cell_past _ q2, cell_past _ q3, cell_past _ q4⟩ | with_reducible exact ⟨past5 (cell_later hb1 q0) n3, past5 (cell_later hb1 q1) n3, past5 (cell_later hb1 q2) n3, past5 (cell_later hb1 q3) n3, past5 (cell_later hb1 q4) n3⟩ | with_reducible exact ⟨cell_later hb1 q0, cell_later hb1 q1, cell_later hb1 q2, cell_later hb1 q3, cell_later hb1 q4⟩ | with_reducible exact ⟨cell_past _ (cell_later hb1 q0), cell_past _ (cell_later hb1 q1), cell_past _ (cell_later hb1 q2), cell_past _ (cell_later hb1 q3), cell_past _ (cell_later hb1 q4)⟩ | with_reducible exact ⟨cell_drew q0, cell_drew q1, cell_drew q2, cell_drew q3, cell_drew q4⟩ | with_reducible exact ⟨cell_drew (cell_past _ q0), cell_drew (cell_past _ q1), cell_drew (cell_past _ q2), cell_drew (cell_past _ q3), cell_drew (cell_past _ q4)⟩) (first | (go_at_call 6; refine (skids_any a n cap E hn i _ HFT.out hi (HT.out.below (by go_grown))).mono ?_; rintro e w1 ⟨v, rfl, hv, h2⟩; rw [HKL.out] at hv; have hb1 : Below w.heap.size w w1 := below_step (Nat.le_refl _) (by go_grown) h2; have n1 := World.new_ne w1 _ (cell_later hb1 q0); obtain ⟨ao, cp, rfl⟩ := owns_slice hv; have HI := Lib.hid hv; clear hv; (try (have hz := kept_new h2 (n := w.heap.size) rfl; obtain ⟨z0, z1, z2, z3, z4, y0, y1, y2, y3, y4⟩ := cells5 hz; have n3 := World.new_ne w _ q0))))
    all_goals
      obtain ⟨W, nb, hW, hnb, HV⟩ : ∃ W nb, W = _ ∧ nb = _ ∧ Hid (SVar (.slice ao [x, y].length cp) [x, y] w W nb (E i)) := by first | exact ⟨_, _, rfl, rfl, Lib.hid (svar3 (x := E i) hb1 HI.out hz (by simp))⟩ | exact ⟨_, _, rfl, rfl, Lib.hid (svar2 (x := E i) hb1 HI.out)⟩
      rw [← hW]
      rw [← hnb]
      clear hW hnb
      clear q0 q1 q2 q3 q4 HI
      revert HV
      revert W nb
      revert ao cp
    clear h2 hb1 n1
    rename_i hHeld
    clear hHeld w1
    refine ?join26
    rotate_left
    · exact ?join26
    intro ao cp W nb HV
    obtain ⟨z0, z1, z2, z3, z4, -⟩ := cells5 HV.out.2.2.2
    have hbW := HV.out.2.1
    have HTW := Lib.hid (HT.out.below hbW)
    have HIW := Lib.hid HV.out.1
    clear HV
    rw [HKK.out] at z0
    rw [HFL.out] at z3
    go_wp2_with fail
    all_goals
      go_ret
      refine ⟨⟨_, rfl, fun h => ?_⟩, by first | exact hbw | exact hbW⟩
      first | (cases h; done) | fail
  · obtain ⟨q0, q1, q2, q3, q4⟩ := HT.out i hi
    go_enter Try.func17, Try.ntmps17
    go_wp2_with fail
    go_region_held3 (fun w' => w'.cell? (a.add (i * 5)) = some (.int .i64 (E i).kind) ∧ w'.cell? ⟨(a.add (i * 5)).block, (a.add (i * 5)).off + 1, none⟩ = some (.int .i64 (E i).op) ∧ w'.cell? ⟨(a.add (i * 5)).block, (a.add (i * 5)).off + 2, none⟩ = some (.string (E i).text) ∧ w'.cell? ⟨(a.add (i * 5)).block, (a.add (i * 5)).off + 3, none⟩ = some (.int .i64 (E i).flag) ∧ w'.cell? ⟨(a.add (i * 5)).block, (a.add (i * 5)).off + 4, none⟩ = some (.int .i64 (E i).size)) (first | with_reducible exact ⟨q0, q1, q2, q3, q4⟩ | with_reducible exact ⟨cell_past _ q0, cell_past _ q1, cell_past _ q2, cell_past _ q3, cell_past _ q4⟩ | with_reducible exact ⟨past5 (cell_later hb1 q0) n3, past5 (cell_later hb1 q1) n3, past5 (cell_later hb1 q2) n3, past5 (cell_later hb1 q3) n3, past5 (cell_later hb1 q4) n3⟩ | with_reducible exact ⟨cell_later hb1 q0, cell_later hb1 q1, cell_later hb1 q2, cell_later hb1 q3, cell_later hb1 q4⟩ | with_reducible exact ⟨cell_past _ (cell_later hb1 q0), cell_past _ (cell_later hb1 q1), cell_past _ (cell_later hb1 q2), cell_past _ (cell_later hb1 q3), cell_past _ (cell_later hb1 q4)⟩ | with_reducible exact ⟨cell_drew q0, cell_drew q1, cell_drew q2, cell_drew q3, cell_drew q4⟩ | with_reducible exact ⟨cell_drew (cell_past _ q0), cell_drew (cell_past _ q1), cell_drew (cell_past _ q2), cell_drew (cell_past _ q3), cell_drew (cell_past _ q4)⟩) (first | (go_at_call 6; refine (skids_any a n cap E hn i _ HFT.out hi (HT.out.below (by go_grown))).mono ?_; rintro e w1 ⟨v, rfl, hv, h2⟩; rw [HKL.out] at hv; have hb1 : Below w.heap.size w w1 := below_step (Nat.le_refl _) (by go_grown) h2; have n1 := World.new_ne w1 _ (cell_later hb1 q0); obtain ⟨ao, cp, rfl⟩ := owns_slice hv; have HI := Lib.hid hv; clear hv; (try (have hz := kept_new h2 (n := w.heap.size) rfl; obtain ⟨z0, z1, z2, z3, z4, y0, y1, y2, y3, y4⟩ := cells5 hz; have n3 := World.new_ne w _ q0))))
    all_goals
      obtain ⟨W, nb, hW, hnb, HV⟩ : ∃ W nb, W = _ ∧ nb = _ ∧ Hid (SVar (.slice ao [x, y, z].length cp) [x, y, z] w W nb (E i)) := by first | exact ⟨_, _, rfl, rfl, Lib.hid (svar3 (x := E i) hb1 HI.out hz (by simp))⟩ | exact ⟨_, _, rfl, rfl, Lib.hid (svar2 (x := E i) hb1 HI.out)⟩
      rw [← hW]
      rw [← hnb]
      clear hW hnb
      clear q0 q1 q2 q3 q4 HI
      revert HV
      revert W nb
      revert ao cp
    clear h2 hb1 n1
    rename_i hHeld
    clear hHeld w1
    refine ?join27
    rotate_left
    · exact ?join27
    intro ao cp W nb HV
    obtain ⟨z0, z1, z2, z3, z4, -⟩ := cells5 HV.out.2.2.2
    have hbW := HV.out.2.1
    have HTW := Lib.hid (HT.out.below hbW)
    have HIW := Lib.hid HV.out.1
    clear HV
    rw [HKK.out] at z0
    rw [HFL.out] at z3
    go_wp2_with (go_at_call 27; refine (exprs_yes a n cap E hn [x, y, z] _ _ HL.out hln HTW.out HIW.out).mono ?_; rintro e w2 ⟨⟨r, rfl, hr⟩, rfl⟩; have HR := Lib.hid hr; clear hr; cases r)
    all_goals
      go_ret
      refine ⟨⟨_, rfl, fun h => ?_⟩, by first | exact hbw | exact hbW⟩
      first | (cases h; done) | exact .assert3 x y z HKK.out HFL.out rfl ((HR.out (by first | rfl | trivial)) x (by simp)) ((HR.out (by first | rfl | trivial)) y (by simp)) ((HR.out (by first | rfl | trivial)) z (by simp))
  · obtain ⟨q0, q1, q2, q3, q4⟩ := HT.out i hi
    go_enter Try.func17, Try.ntmps17
    go_wp2_with fail
    go_region_held3 (fun w' => w'.cell? (a.add (i * 5)) = some (.int .i64 (E i).kind) ∧ w'.cell? ⟨(a.add (i * 5)).block, (a.add (i * 5)).off + 1, none⟩ = some (.int .i64 (E i).op) ∧ w'.cell? ⟨(a.add (i * 5)).block, (a.add (i * 5)).off + 2, none⟩ = some (.string (E i).text) ∧ w'.cell? ⟨(a.add (i * 5)).block, (a.add (i * 5)).off + 3, none⟩ = some (.int .i64 (E i).flag) ∧ w'.cell? ⟨(a.add (i * 5)).block, (a.add (i * 5)).off + 4, none⟩ = some (.int .i64 (E i).size)) (first | with_reducible exact ⟨q0, q1, q2, q3, q4⟩ | with_reducible exact ⟨cell_past _ q0, cell_past _ q1, cell_past _ q2, cell_past _ q3, cell_past _ q4⟩ | with_reducible exact ⟨past5 (cell_later hb1 q0) n3, past5 (cell_later hb1 q1) n3, past5 (cell_later hb1 q2) n3, past5 (cell_later hb1 q3) n3, past5 (cell_later hb1 q4) n3⟩ | with_reducible exact ⟨cell_later hb1 q0, cell_later hb1 q1, cell_later hb1 q2, cell_later hb1 q3, cell_later hb1 q4⟩ | with_reducible exact ⟨cell_past _ (cell_later hb1 q0), cell_past _ (cell_later hb1 q1), cell_past _ (cell_later hb1 q2), cell_past _ (cell_later hb1 q3), cell_past _ (cell_later hb1 q4)⟩ | with_reducible exact ⟨cell_drew q0, cell_drew q1, cell_drew q2, cell_drew q3, cell_drew q4⟩ | with_reducible exact ⟨cell_drew (cell_past _ q0), cell_drew (cell_past _ q1), cell_drew (cell_past _ q2), cell_drew (cell_past _ q3), cell_drew (cell_past _ q4)⟩) (first | (go_at_call 6; refine (skids_any a n cap E hn i _ HFT.out hi (HT.out.below (by go_grown))).mono ?_; rintro e w1 ⟨v, rfl, hv, h2⟩; rw [HKL.out] at hv; have hb1 : Below w.heap.size w w1 := below_step (Nat.le_refl _) (by go_grown) h2; have n1 := World.new_ne w1 _ (cell_later hb1 q0); obtain ⟨ao, cp, rfl⟩ := owns_slice hv; have HI := Lib.hid hv; clear hv; (try (have hz := kept_new h2 (n := w.heap.size) rfl; obtain ⟨z0, z1, z2, z3, z4, y0, y1, y2, y3, y4⟩ := cells5 hz; have n3 := World.new_ne w _ q0))))
    all_goals
      obtain ⟨W, nb, hW, hnb, HV⟩ : ∃ W nb, W = _ ∧ nb = _ ∧ Hid (SVar (.slice ao (x :: y :: z :: u :: l).length cp) (x :: y :: z :: u :: l) w W nb (E i)) := by first | exact ⟨_, _, rfl, rfl, Lib.hid (svar3 (x := E i) hb1 HI.out hz (by simp))⟩ | exact ⟨_, _, rfl, rfl, Lib.hid (svar2 (x := E i) hb1 HI.out)⟩
      rw [← hW]
      rw [← hnb]
      clear hW hnb
      clear q0 q1 q2 q3 q4 HI
      revert HV
      revert W nb
      revert ao cp
    clear h2 hb1 n1
    rename_i hHeld
    clear hHeld w1
    refine ?join28
    rotate_left
    · exact ?join28
    intro ao cp W nb HV
    obtain ⟨z0, z1, z2, z3, z4, -⟩ := cells5 HV.out.2.2.2
    have hbW := HV.out.2.1
    have HTW := Lib.hid (HT.out.below hbW)
    have HIW := Lib.hid HV.out.1
    clear HV
    have dq3 : ((l.length : Int) + 1 + 1 + 1 + 1 == 3) = false := by simp; omega
    have dr3 : ¬ (l.length : Int) + 1 + 1 + 1 + 1 = 3 := by omega
    rw [HKK.out] at z0
    rw [HFL.out] at z3
    go_wp2_with fail
    all_goals
      go_ret
      refine ⟨⟨_, rfl, fun h => ?_⟩, by first | exact hbw | exact hbW⟩
      first | (cases h; done) | fail
end Go.Proofs.Ytkpfbgeaodopoaa.fnDirect
