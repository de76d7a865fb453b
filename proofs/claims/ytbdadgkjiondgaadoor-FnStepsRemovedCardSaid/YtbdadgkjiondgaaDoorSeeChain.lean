/-
  FnSeen, FnStepsRemoved: objects made of objects; the package's chain.
-/
import Derived.Test.YtbdadgkjiondgaaDoorSeeMake
namespace Go.Proofs.YtbdadgkjiondgaaDoor.see
open Go.RowKit Go.Maps Go.WideMaps
set_option linter.unusedSimpArgs false
set_option linter.unusedVariables false

theorem Obj.form {d : Nat} {w : World} {v : Value} {f : View} {n : Nat} (h : Obj d w v f n) : ∃ t q, v = .iface t (.pointer (some ⟨q, 0, none⟩)) := by
  cases d with
  | zero => obtain ⟨p, b, rfl, -⟩ := h; exact ⟨_, _, rfl⟩
  | succ d =>
    rcases h with ⟨p, b, rfl, -⟩ | ⟨p, v1, v2, k, f1, f2, n1, n2, rfl, -⟩ | ⟨p, v1, b, f1, n1, rfl, -⟩
    · exact ⟨_, _, rfl⟩
    · exact ⟨_, _, rfl⟩
    · exact ⟨_, _, rfl⟩

set_option maxRecDepth 100000 in
set_option maxHeartbeats 1600000 in
theorem restricted_any (d p n : Nat) (f : View) (w : World) (h : ObjP d w p f n) (hn : n ≤ 100000) : Calls Tryd.prog 27 #[.pointer (some ⟨p, 0, none⟩)] w
    fun e w' => ∃ p' q v g, e = .returned (.pointer (some ⟨p', 0, none⟩)) ∧ w.heap.size ≤ p' ∧ w.heap.size ≤ q ∧ w.heap.size ≤ g ∧ p' ≠ g ∧ q ≠ g ∧ Obj d w v f n ∧
      w'.cell? ⟨p', 2, none⟩ = some (.iface 79 (.pointer (some ⟨q, 0, none⟩))) ∧ w'.cell? ⟨q, 0, none⟩ = some v ∧ w'.cell? ⟨q, 1, none⟩ = some (.map (some g)) ∧ HM 45 w' g n f ∧ Below w.heap.size w w' := by
  obtain ⟨v, hv, ho⟩ := h
  obtain ⟨tv, qv, hvv⟩ := ho.form
  have HO := Lib.hid ho
  have HOB := Lib.hid (fun (w' : World) (hb : Below w.heap.size w w') => ho.below d hb)
  have hvw := hv
  subst hvv
  clear ho
  have hv1 := fun o => cell_past o hv
  go_enter Tryd.func27, Tryd.ntmps27
  go_wp2
  go_region_law (first | (go_simp; go_at_call 22; refine (ofv_any d p n f _ ⟨_, by first | exact hv | exact hv1 _, HOB.out _ (by first | exact (Below.refl _ _).drew | go_grown)⟩ hn).mono ?_; rintro e w1 ⟨g, rfl, hm, hg, hb⟩; have hv2 := cell_later hb (show World.cell? _ _ = some (.iface tv (.pointer (some ⟨qv, 0, none⟩))) by first | exact hv | exact hv1 _); have hbw : Below w.heap.size w w1 := (by first | exact (Below.refl _ _).drew.trans hb | exact below_step (Nat.le_refl _) (show Below w.heap.size w (w.alloc (.map #[] 0)).drew by go_grown) hb); have hgw : w.heap.size ≤ g := (by first | exact hg | (have h0 := hg; simp at h0; omega)); have HMg := Lib.hid hm; clear hm; have hv3 := fun o => cell_past o hv2))
  all_goals
    have hgl := HMg.out.lt
    have hsb := hbw.size
    go_wp2
    go_ret
    refine ⟨_, _, _, g, rfl, ?_, ?_, hgw, ?_, ?_, HO.out, cell_at (by simp) rfl, by first | exact cell_past _ (cell_at (by simp) rfl) | exact cell_past _ (cell_past _ (cell_at (by simp) rfl)), by first | exact cell_past _ (cell_at (by simp) rfl) | exact cell_past _ (cell_past _ (cell_at (by simp) rfl)), HMg.out.below (by go_grown), below_step (Nat.le_refl _) hbw (by go_grown)⟩
    all_goals omega

set_option maxRecDepth 100000 in
set_option maxHeartbeats 1600000 in
theorem extended_res (p1 p2 q1 q2 : Nat) (w : World) (h1 : w.cell? ⟨p1, 2, none⟩ = some (.iface 79 (.pointer (some ⟨q1, 0, none⟩)))) (h2 : w.cell? ⟨p2, 2, none⟩ = some (.iface 86 (.pointer (some ⟨q2, 0, none⟩)))) (B0 : Nat) (HC : ∀ w', Below w.heap.size w w' → Calls Tryd.prog 66 #[.pointer (some ⟨q1, 0, none⟩)] w' fun e w'' => ∃ k, e = .returned (.int .i64 k) ∧ w' = w'') : Calls Tryd.prog 28 #[.pointer (some ⟨p1, 0, none⟩), .pointer (some ⟨p2, 0, none⟩)] w
    fun e w' => ∃ p' q k, e = .returned (.pointer (some ⟨p', 0, none⟩)) ∧ w'.cell? ⟨p', 2, none⟩ = some (.iface 83 (.pointer (some ⟨q, 0, none⟩))) ∧ w'.cell? ⟨q, 0, none⟩ = some (.iface 79 (.pointer (some ⟨q1, 0, none⟩))) ∧ w'.cell? ⟨q, 1, none⟩ = some (.iface 86 (.pointer (some ⟨q2, 0, none⟩))) ∧ w'.cell? ⟨q, 2, none⟩ = some (.int .i64 k) ∧ Below w.heap.size w w' := by
  have a1 := fun o => cell_past o h1
  have b1 := fun o o' => cell_past o' (cell_past o h1)
  have c1 := fun o o' o'' => cell_past o'' (cell_past o' (cell_past o h1))
  have a2 := fun o => cell_past o h2
  have b2 := fun o o' => cell_past o' (cell_past o h2)
  have c2 := fun o o' o'' => cell_past o'' (cell_past o' (cell_past o h2))
  have hB0 : Below w.heap.size w w.drew := (Below.refl _ _).drew
  have hB1 : ∀ o, Below w.heap.size w (w.alloc o).drew := fun o => by go_grown
  have HC0 := Lib.hid HC
  clear HC
  go_enter Tryd.func28, Tryd.ntmps28
  go_wp2
  go_region_held3 (fun w' => w'.cell? ⟨p1, 2, none⟩ = some (.iface 79 (.pointer (some ⟨q1, 0, none⟩))) ∧ w'.cell? ⟨p2, 2, none⟩ = some (.iface 86 (.pointer (some ⟨q2, 0, none⟩)))) (first | go_keep | exact ⟨by first | exact h1 | exact a1 _ | exact b1 _ _ | exact c1 _ _ _, by first | exact h2 | exact a2 _ | exact b2 _ _ | exact c2 _ _ _⟩) (first | (go_at_call 66; refine (HC0.out _ (by first | exact hB0 | exact hB1 _)).mono ?_; rintro e w' ⟨k, rfl, rfl⟩) | (go_at_call 68; refine (size_sim _ _).mono ?_; rintro e w' ⟨rfl, rfl⟩))
  all_goals
    go_wp2
    go_ret
    refine ⟨_, _, _, rfl, cell_at (by simp) rfl, by first | exact cell_past _ (cell_at (by simp) rfl) | exact cell_past _ (cell_past _ (cell_at (by simp) rfl)), by first | exact cell_past _ (cell_at (by simp) rfl) | exact cell_past _ (cell_past _ (cell_at (by simp) rfl)), by first | exact cell_past _ (cell_at (by simp) rfl) | exact cell_past _ (cell_past _ (cell_at (by simp) rfl)), by go_grown⟩

set_option maxRecDepth 100000 in
set_option maxHeartbeats 1600000 in
theorem extended_ext (p1 p2 q1 q2 : Nat) (w : World) (h1 : w.cell? ⟨p1, 2, none⟩ = some (.iface 83 (.pointer (some ⟨q1, 0, none⟩)))) (h2 : w.cell? ⟨p2, 2, none⟩ = some (.iface 86 (.pointer (some ⟨q2, 0, none⟩)))) (B0 : Nat) (HC : ∀ w', Below w.heap.size w w' → Calls Tryd.prog 67 #[.pointer (some ⟨q1, 0, none⟩)] w' fun e w'' => ∃ k, e = .returned (.int .i64 k) ∧ w' = w'') : Calls Tryd.prog 28 #[.pointer (some ⟨p1, 0, none⟩), .pointer (some ⟨p2, 0, none⟩)] w
    fun e w' => ∃ p' q k, e = .returned (.pointer (some ⟨p', 0, none⟩)) ∧ w'.cell? ⟨p', 2, none⟩ = some (.iface 83 (.pointer (some ⟨q, 0, none⟩))) ∧ w'.cell? ⟨q, 0, none⟩ = some (.iface 83 (.pointer (some ⟨q1, 0, none⟩))) ∧ w'.cell? ⟨q, 1, none⟩ = some (.iface 86 (.pointer (some ⟨q2, 0, none⟩))) ∧ w'.cell? ⟨q, 2, none⟩ = some (.int .i64 k) ∧ Below w.heap.size w w' := by
  have a1 := fun o => cell_past o h1
  have b1 := fun o o' => cell_past o' (cell_past o h1)
  have c1 := fun o o' o'' => cell_past o'' (cell_past o' (cell_past o h1))
  have a2 := fun o => cell_past o h2
  have b2 := fun o o' => cell_past o' (cell_past o h2)
  have c2 := fun o o' o'' => cell_past o'' (cell_past o' (cell_past o h2))
  have hB0 : Below w.heap.size w w.drew := (Below.refl _ _).drew
  have hB1 : ∀ o, Below w.heap.size w (w.alloc o).drew := fun o => by go_grown
  have HC0 := Lib.hid HC
  clear HC
  go_enter Tryd.func28, Tryd.ntmps28
  go_wp2
  go_region_held3 (fun w' => w'.cell? ⟨p1, 2, none⟩ = some (.iface 83 (.pointer (some ⟨q1, 0, none⟩))) ∧ w'.cell? ⟨p2, 2, none⟩ = some (.iface 86 (.pointer (some ⟨q2, 0, none⟩)))) (first | go_keep | exact ⟨by first | exact h1 | exact a1 _ | exact b1 _ _ | exact c1 _ _ _, by first | exact h2 | exact a2 _ | exact b2 _ _ | exact c2 _ _ _⟩) (first | (go_at_call 67; refine (HC0.out _ (by first | exact hB0 | exact hB1 _)).mono ?_; rintro e w' ⟨k, rfl, rfl⟩) | (go_at_call 68; refine (size_sim _ _).mono ?_; rintro e w' ⟨rfl, rfl⟩))
  all_goals
    go_wp2
    go_ret
    refine ⟨_, _, _, rfl, cell_at (by simp) rfl, by first | exact cell_past _ (cell_at (by simp) rfl) | exact cell_past _ (cell_past _ (cell_at (by simp) rfl)), by first | exact cell_past _ (cell_at (by simp) rfl) | exact cell_past _ (cell_past _ (cell_at (by simp) rfl)), by first | exact cell_past _ (cell_at (by simp) rfl) | exact cell_past _ (cell_past _ (cell_at (by simp) rfl)), by go_grown⟩

set_option maxRecDepth 100000 in
set_option maxHeartbeats 1600000 in
theorem extended_sim (p1 p2 q1 q2 : Nat) (w : World) (h1 : w.cell? ⟨p1, 2, none⟩ = some (.iface 86 (.pointer (some ⟨q1, 0, none⟩)))) (h2 : w.cell? ⟨p2, 2, none⟩ = some (.iface 86 (.pointer (some ⟨q2, 0, none⟩)))) (B0 : Nat) (HC : ∀ w', Below w.heap.size w w' → Calls Tryd.prog 68 #[.pointer (some ⟨q1, 0, none⟩)] w' fun e w'' => ∃ k, e = .returned (.int .i64 k) ∧ w' = w'') : Calls Tryd.prog 28 #[.pointer (some ⟨p1, 0, none⟩), .pointer (some ⟨p2, 0, none⟩)] w
    fun e w' => ∃ p' q k, e = .returned (.pointer (some ⟨p', 0, none⟩)) ∧ w'.cell? ⟨p', 2, none⟩ = some (.iface 83 (.pointer (some ⟨q, 0, none⟩))) ∧ w'.cell? ⟨q, 0, none⟩ = some (.iface 86 (.pointer (some ⟨q1, 0, none⟩))) ∧ w'.cell? ⟨q, 1, none⟩ = some (.iface 86 (.pointer (some ⟨q2, 0, none⟩))) ∧ w'.cell? ⟨q, 2, none⟩ = some (.int .i64 k) ∧ Below w.heap.size w w' := by
  have a1 := fun o => cell_past o h1
  have b1 := fun o o' => cell_past o' (cell_past o h1)
  have c1 := fun o o' o'' => cell_past o'' (cell_past o' (cell_past o h1))
  have a2 := fun o => cell_past o h2
  have b2 := fun o o' => cell_past o' (cell_past o h2)
  have c2 := fun o o' o'' => cell_past o'' (cell_past o' (cell_past o h2))
  have hB0 : Below w.heap.size w w.drew := (Below.refl _ _).drew
  have hB1 : ∀ o, Below w.heap.size w (w.alloc o).drew := fun o => by go_grown
  have HC0 := Lib.hid HC
  clear HC
  go_enter Tryd.func28, Tryd.ntmps28
  go_wp2
  go_region_held3 (fun w' => w'.cell? ⟨p1, 2, none⟩ = some (.iface 86 (.pointer (some ⟨q1, 0, none⟩))) ∧ w'.cell? ⟨p2, 2, none⟩ = some (.iface 86 (.pointer (some ⟨q2, 0, none⟩)))) (first | go_keep | exact ⟨by first | exact h1 | exact a1 _ | exact b1 _ _ | exact c1 _ _ _, by first | exact h2 | exact a2 _ | exact b2 _ _ | exact c2 _ _ _⟩) (first | (go_at_call 68; refine (HC0.out _ (by first | exact hB0 | exact hB1 _)).mono ?_; rintro e w' ⟨k, rfl, rfl⟩) | (go_at_call 68; refine (size_sim _ _).mono ?_; rintro e w' ⟨rfl, rfl⟩))
  all_goals
    go_wp2
    go_ret
    refine ⟨_, _, _, rfl, cell_at (by simp) rfl, by first | exact cell_past _ (cell_at (by simp) rfl) | exact cell_past _ (cell_past _ (cell_at (by simp) rfl)), by first | exact cell_past _ (cell_at (by simp) rfl) | exact cell_past _ (cell_past _ (cell_at (by simp) rfl)), by first | exact cell_past _ (cell_at (by simp) rfl) | exact cell_past _ (cell_past _ (cell_at (by simp) rfl)), by go_grown⟩

end Go.Proofs.YtbdadgkjiondgaaDoor.see
