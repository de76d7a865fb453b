/-
  FnDirect: the recogniser: nodes and their kids, joined.
-/
import Derived.Test.YtkpfbgeaodopoaaDirShapeB
import Derived.Test.YtkpfbgeaodopoaaDirShapeC1
import Derived.Test.YtkpfbgeaodopoaaDirShapeC2
import Derived.Test.YtkpfbgeaodopoaaDirShapeC3
import Derived.Test.YtkpfbgeaodopoaaDirShapeC4
namespace Go.Proofs.Ytkpfbgeaodopoaa.fnDirect
open Go.RowKit
set_option linter.unusedSimpArgs false
set_option linter.unusedVariables false

set_option maxRecDepth 100000 in
set_option maxHeartbeats 3200000 in
theorem sh_other (a : Addr) (n cap : Nat) (E : Nat → Nd) (hn : n ≤ 400) (i : Nat) (l : List Nat) (w : World) (hi : i < n) (hf : Fit E n) (hkl : kids E i = l) (hl : ∀ k ∈ l, k < n) (hln : l.length ≤ n) (ht : Lies w a n E) (hk : (E i).kind ∉ [(1 : Int), 2, 3, 4, 5, 6, 7, 8, 26, 27, 28, 31, 9, 10, 22, 24, 30, 16, 34, 38, 39, 11, 15, 23, 21, 25, 37, 36, 33]) (hB : BareOk (E i).kind (E i).op (E i).flag) :
    Calls Try.prog 17 #[.slice (some a) n cap, .int .i64 i] w fun e w' => Yes (Shape E (E i) l) e ∧ Below w.heap.size w w' := by
  have HT := Lib.hid ht
  have HFT := Lib.hid hf
  have HKL := Lib.hid hkl
  have HL := Lib.hid hl
  have HKK := Lib.hid hk
  have hin : (i : Int) < n := by omega
  clear ht hf hkl hl hk
  have HB := Lib.hid hB
  clear hB
  obtain ⟨q0, q1, q2, q3, q4⟩ := HT.out i hi
  go_enter Try.func17, Try.ntmps17
  go_wp2_with fail
  go_region_held3 (fun w' => w'.cell? (a.add (i * 5)) = some (.int .i64 (E i).kind) ∧ w'.cell? ⟨(a.add (i * 5)).block, (a.add (i * 5)).off + 1, none⟩ = some (.int .i64 (E i).op) ∧ w'.cell? ⟨(a.add (i * 5)).block, (a.add (i * 5)).off + 2, none⟩ = some (.string (E i).text) ∧ w'.cell? ⟨(a.add (i * 5)).block, (a.add (i * 5)).off + 3, none⟩ = some (.int .i64 (E i).flag) ∧ w'.cell? ⟨(a.add (i * 5)).block, (a.add (i * 5)).off + 4, none⟩ = some (.int .i64 (E i).size)) (first | with_reducible exact ⟨q0, q1, q2, q3, q4⟩ | with_reducible exact ⟨cell_past _ q0, cell_past _ q1, cell_past _ q2, cell_past _ q3, cell_past _ q4⟩ | with_reducible exact ⟨past5 (cell_later hb1 q0) n3, past5 (cell_later hb1 q1) n3, past5 (cell_later hb1 q2) n3, past5 (cell_later hb1 q3) n3, past5 (cell_later hb1 q4) n3⟩ | with_reducible exact ⟨cell_later hb1 q0, cell_later hb1 q1, cell_later hb1 q2, cell_later hb1 q3, cell_later hb1 q4⟩ | with_reducible exact ⟨cell_past _ (cell_later hb1 q0), cell_past _ (cell_later hb1 q1), cell_past _ (cell_later hb1 q2), cell_past _ (cell_later hb1 q3), cell_past _ (cell_later hb1 q4)⟩ | with_reducible exact ⟨cell_drew q0, cell_drew q1, cell_drew q2, cell_drew q3, cell_drew q4⟩ | with_reducible exact ⟨cell_drew (cell_past _ q0), cell_drew (cell_past _ q1), cell_drew (cell_past _ q2), cell_drew (cell_past _ q3), cell_drew (cell_past _ q4)⟩) (first | (go_at_call 6; refine (skids_any a n cap E hn i _ HFT.out hi (HT.out.below (by go_grown))).mono ?_; rintro e w1 ⟨v, rfl, hv, h2⟩; rw [HKL.out] at hv; have hb1 : Below w.heap.size w w1 := below_step (Nat.le_refl _) (by go_grown) h2; have n1 := World.new_ne w1 _ (cell_later hb1 q0); obtain ⟨ao, cp, rfl⟩ := owns_slice hv; have HI := Lib.hid hv; clear hv; (try (have hz := kept_new h2 (n := w.heap.size) rfl; obtain ⟨z0, z1, z2, z3, z4, y0, y1, y2, y3, y4⟩ := cells5 hz; have n3 := World.new_ne w _ q0))))
  all_goals
    obtain ⟨W, nb, hW, hnb, HV⟩ : ∃ W nb, W = _ ∧ nb = _ ∧ Hid (SVar (.slice ao l.length cp) l w W nb (E i)) := by first | exact ⟨_, _, rfl, rfl, Lib.hid (svar3 (x := E i) hb1 HI.out hz (by simp))⟩ | exact ⟨_, _, rfl, rfl, Lib.hid (svar2 (x := E i) hb1 HI.out)⟩
    rw [← hW]
    rw [← hnb]
    clear hW hnb
    clear q0 q1 q2 q3 q4 HI
    revert HV
    revert W nb
    revert ao cp
  clear h2 hb1 n1
  rename_i hHeld
  clear hHeld w1
  refine ?join43
  rotate_left
  · exact ?join43
  intro ao cp W nb HV
  obtain ⟨z0, z1, z2, z3, z4, -⟩ := cells5 HV.out.2.2.2
  have hbW := HV.out.2.1
  have HTW := Lib.hid (HT.out.below hbW)
  have HIW := Lib.hid HV.out.1
  clear HV
  have hk0 := HKK.out
  obtain ⟨ke, hke⟩ : ∃ ke, (E i).kind = ke := ⟨_, rfl⟩
  rw [hke] at z0 hk0
  simp only [List.mem_cons, List.not_mem_nil, or_false, not_or] at hk0
  obtain ⟨k1, k2, k3, k4, k5, k6, k7, k8, k26, k27, k28, k31, k9, k10, k22, k24, k30, k16, k34, k38, k39, k11, k15, k23, k21, k25, k37, k36, k33⟩ := hk0
  have d1 : (ke == 1) = false := by simpa using k1
  have d2 : (ke == 2) = false := by simpa using k2
  have d3 : (ke == 3) = false := by simpa using k3
  have d4 : (ke == 4) = false := by simpa using k4
  have d5 : (ke == 5) = false := by simpa using k5
  have d6 : (ke == 6) = false := by simpa using k6
  have d7 : (ke == 7) = false := by simpa using k7
  have d8 : (ke == 8) = false := by simpa using k8
  have d26 : (ke == 26) = false := by simpa using k26
  have d27 : (ke == 27) = false := by simpa using k27
  have d28 : (ke == 28) = false := by simpa using k28
  have d31 : (ke == 31) = false := by simpa using k31
  have d9 : (ke == 9) = false := by simpa using k9
  have d10 : (ke == 10) = false := by simpa using k10
  have d22 : (ke == 22) = false := by simpa using k22
  have d24 : (ke == 24) = false := by simpa using k24
  have d30 : (ke == 30) = false := by simpa using k30
  have d16 : (ke == 16) = false := by simpa using k16
  have d34 : (ke == 34) = false := by simpa using k34
  have d38 : (ke == 38) = false := by simpa using k38
  have d39 : (ke == 39) = false := by simpa using k39
  have d11 : (ke == 11) = false := by simpa using k11
  have d15 : (ke == 15) = false := by simpa using k15
  have d23 : (ke == 23) = false := by simpa using k23
  have d21 : (ke == 21) = false := by simpa using k21
  have d25 : (ke == 25) = false := by simpa using k25
  have d37 : (ke == 37) = false := by simpa using k37
  have d36 : (ke == 36) = false := by simpa using k36
  have d33 : (ke == 33) = false := by simpa using k33
  clear hke
  go_wp2_with (go_at_call 29; refine (great_yes a n cap E hn i l _ _ hi HL.out hln HTW.out HIW.out HB.out).mono ?_; rintro e w2 ⟨⟨r, rfl, hr⟩, hb2⟩; have hbw : Below w.heap.size w w2 := below_step (Nat.le_refl _) hbW hb2; have HR := Lib.hid hr; clear hr)
  all_goals
    go_ret
    refine ⟨⟨_, rfl, fun h => ?_⟩, by first | exact hbw | exact hbW⟩
    first | (cases h; done) | exact HR.out h

theorem sshaped_yes (a : Addr) (n cap : Nat) (E : Nat → Nd) (hn : n ≤ 400) (i : Nat) (w : World) (hi : i < n) (hf : Fit E n) (ht : Lies w a n E) (hB : BareOk (E i).kind (E i).op (E i).flag) :
    Calls Try.prog 17 #[.slice (some a) n cap, .int .i64 i] w fun e w' => Yes (Shape E (E i) (kids E i)) e ∧ Below w.heap.size w w' := by
  have hl : ∀ k ∈ kids E i, k < n := fun k hk => by
    have h1 := (hf.2.2 i hi).kin.mem hk
    have h2 := (hf.2.2 i hi).2.1
    omega
  have hln : (kids E i).length ≤ n := by
    have h1 := (hf.2.2 i hi).kin.len
    have h2 := (hf.2.2 i hi).2.1
    omega
  by_cases h1 : (E i).kind ∈ [(1 : Int), 2, 3, 4, 5, 6, 7, 8, 26, 27, 28, 31] 
  · exact sh_leaf a n cap E hn i (kids E i) w hi hf rfl hl hln ht h1
  by_cases h2 : (E i).kind ∈ [(10 : Int), 22, 24, 30, 16, 34, 38, 39]
  · exact sh_one a n cap E hn i (kids E i) w hi hf rfl hl hln ht h2 hB.1
  by_cases h3 : (E i).kind ∈ [(15 : Int), 23]
  · exact sh_two a n cap E hn i (kids E i) w hi hf rfl hl hln ht h3 hB.2.1
  by_cases h9 : (E i).kind = 9
  · rcases hB.2.2.1 (by rw [h9]; decide) with hfl | hfl
    · exact sh_9_0 a n cap E hn i (kids E i) w hi hf rfl hl hln ht h9 hfl
    · exact sh_9_1 a n cap E hn i (kids E i) w hi hf rfl hl hln ht h9 hfl
  by_cases h11 : (E i).kind = 11
  · exact sh_11 a n cap E hn i (kids E i) w hi hf rfl hl hln ht h11
  by_cases h21 : (E i).kind = 21
  · exact sh_if a n cap E hn i (kids E i) w hi hf rfl hl hln ht h21
  by_cases h25 : (E i).kind = 25
  · rcases hB.2.2.1 (by rw [h25]; decide) with hfl | hfl
    · exact sh_25_0 a n cap E hn i (kids E i) w hi hf rfl hl hln ht h25 hfl
    · exact sh_25_1 a n cap E hn i (kids E i) w hi hf rfl hl hln ht h25 hfl
  by_cases h37 : (E i).kind = 37
  · rcases hB.2.2.1 (by rw [h37]; decide) with hfl | hfl
    · exact sh_37_0 a n cap E hn i (kids E i) w hi hf rfl hl hln ht h37 hfl
    · exact sh_37_1 a n cap E hn i (kids E i) w hi hf rfl hl hln ht h37 hfl
  by_cases h36 : (E i).kind = 36
  · exact sh_36 a n cap E hn i (kids E i) w hi hf rfl hl hln ht h36
  by_cases h33 : (E i).kind = 33
  · exact sh_33 a n cap E hn i (kids E i) w hi hf rfl hl hln ht h33
  exact sh_other a n cap E hn i (kids E i) w hi hf rfl hl hln ht (by
    intro h
    simp only [List.mem_cons, List.not_mem_nil, or_false] at h h1 h2 h3
    omega) hB
end Go.Proofs.Ytkpfbgeaodopoaa.fnDirect
