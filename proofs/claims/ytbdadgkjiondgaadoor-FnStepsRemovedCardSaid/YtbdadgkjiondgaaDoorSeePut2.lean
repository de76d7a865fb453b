/-
  FnStepsRemoved: one step put behind steps.
-/
import Derived.Test.YtbdadgkjiondgaaDoorSeePut
namespace Go.Proofs.YtbdadgkjiondgaaDoor.see
open Go.RowKit Go.Maps Go.WideMaps
set_option linter.unusedSimpArgs false
set_option linter.unusedVariables false

set_option maxRecDepth 100000 in
set_option maxHeartbeats 1600000 in
theorem put7_nil (P : Nat → PE) (b : Addr) (Q : Nat → PE) (w : World) (hq : PesIn w (some b) 1 1 Q) :
    Calls Tryd.prog 10 #[.slice none 0 0, .int .i64 0, .slice (some b) 1 1] w
    fun e w' => ∃ v', e = .returned v' ∧ w'.ownsRow w.heap.size 35 4 v' (0 + 1) (pes (glue P 0 Q) (0 + 1)) ∧ Below w.heap.size w w' := by
  have HQ := Lib.hid hq
  clear hq
  have hb0 : Below w.heap.size w (w.alloc (.cells #[] 35)) := by go_grown
  have hs0 : w.heap.size ≤ (w.alloc (.cells #[] 35)).heap.size := by simp
  have HR0 : Hid ((w.alloc (.cells #[] 35)).ownsRow w.heap.size 35 4 (.slice (some ⟨w.heap.size, 0, none⟩) 0 0) 0 (pes P 0)) := Lib.hid (World.ownsRow_made w #[] 0 (Nat.le_refl _) (by unfold maxLen; omega) rfl)
  go_enter Tryd.func10, Tryd.ntmps10
  go_wp2_with (at_builtin; refine wpList_append_run rfl (.tmp 8) (.tmp 11) 22 rfl (app_pes (F := P) HR0.out (.inl ⟨rfl, rfl, rfl⟩) hs0 (by omega)) ?_; rintro v2 w2 ⟨hown2, hg2⟩)
  have hb2 : Below w.heap.size w w2 := hb0.grown hg2 hs0 (fun b hb => (HR0.out.lt b hb).1)
  have hs2 := hb2.size
  have HR2 : Hid (w2.drew.ownsRow w.heap.size 35 4 v2 (0 + 0) (pes (glue P 0 P) (0 + 0))) := Lib.hid hown2
  have HQ2 : Hid (PesIn w2.drew (some b) 1 1 Q) := Lib.hid ((HQ.out.below hb2).below ((Below.refl _ _).drew))
  clear hown2 hg2 HR0 hb0 hs0
  refine held_begin (S := fun _ => True) 8 (by rfl) (by kernel_rfl) ?_ (fun hHeld => ?_)
  · trivial
  refine held_take 0 (some 13) (v := ?_) rfl rfl (by kernel_rfl) (by kernel_rfl) (by kernel_rfl) (fun _ _ _ _ h => h) (by kernel_rfl) ?_ hHeld ?_
  rotate_left 1
  · intro w hSw; (try dsimp only at hSw); go_simp; (try with_reducible rfl)
  try simp only [List.foldl_cons, List.foldl_nil, List.length_cons, List.length_nil, Act.put, List.setIfInBounds_toArray, List.set_cons_zero, List.set_cons_succ]
  refine held_take 1 (some 14) (v := ?_) rfl rfl (by kernel_rfl) (by kernel_rfl) (by kernel_rfl) (fun _ _ _ _ h => h) (by kernel_rfl) ?_ hHeld ?_
  rotate_left 1
  · intro w hSw; (try dsimp only at hSw); go_simp; (try with_reducible rfl)
  try simp only [List.foldl_cons, List.foldl_nil, List.length_cons, List.length_nil, Act.put, List.setIfInBounds_toArray, List.set_cons_zero, List.set_cons_succ]
  refine held_take 3 (some 16) (v := ?_) rfl rfl (by kernel_rfl) (by kernel_rfl) (by kernel_rfl) (fun _ _ _ _ h => h) (by kernel_rfl) ?_ hHeld ?_
  rotate_left 1
  · intro w hSw; (try dsimp only at hSw); go_simp; (try with_reducible rfl)
  try simp only [List.foldl_cons, List.foldl_nil, List.length_cons, List.length_nil, Act.put, List.setIfInBounds_toArray, List.set_cons_zero, List.set_cons_succ]
  refine held_take 4 (some 17) (v := ?_) rfl rfl (by kernel_rfl) (by kernel_rfl) (by kernel_rfl) (fun _ _ _ _ h => h) (by kernel_rfl) ?_ hHeld ?_
  rotate_left 1
  · intro w hSw; (try dsimp only at hSw); go_simp; (try with_reducible rfl)
  try simp only [List.foldl_cons, List.foldl_nil, List.length_cons, List.length_nil, Act.put, List.setIfInBounds_toArray, List.set_cons_zero, List.set_cons_succ]
  refine held_take 5 (some 18) (v := ?_) rfl rfl (by kernel_rfl) (by kernel_rfl) (by kernel_rfl) (fun _ _ _ _ h => h) (by kernel_rfl) ?_ hHeld ?_
  rotate_left 1
  · intro w hSw; (try dsimp only at hSw); go_simp; (try with_reducible rfl)
  try simp only [List.foldl_cons, List.foldl_nil, List.length_cons, List.length_nil, Act.put, List.setIfInBounds_toArray, List.set_cons_zero, List.set_cons_succ]
  refine wpAnyH_ready (rs := [2]) (by kernel_rfl) (by simp) ?_
  refine AllReadyH.cons rfl (fun K hK => ?_) AllReadyH.nil
  (refine step_append rfl (.tmp 13) (.tmp 14) 22 rfl (app_pes (w := w2.drew) HR2.out HQ2.out hs2 (by omega)) ?_; rintro v3 w3 ⟨hown3, hg3⟩; show K (Act.put _ (some 15) v3) w3)
  have hOld := hHeld
  clear hHeld
  refine hK.out _ _ ?_ (fun hHeld => ?_)
  · trivial
  clear hK K hOld
  try simp only [List.foldl_cons, List.foldl_nil, List.length_cons, List.length_nil, Act.put, List.setIfInBounds_toArray, List.set_cons_zero, List.set_cons_succ]
  refine wpAnyH_ready (rs := [6]) (by kernel_rfl) (by simp) ?_
  refine AllReadyH.cons rfl (fun K hK => ?_) AllReadyH.nil
  (refine step_append rfl (.tmp 15) (.tmp 18) 22 rfl (app_pes (w := w3) (F := P) hown3 (.inl ⟨rfl, rfl, rfl⟩) (Nat.le_trans hs2 hg3.size) (by omega)) ?_; rintro v4 w4 ⟨hown4, hg4⟩; show K (Act.put _ (some 19) v4) w4)
  have hOld := hHeld
  clear hHeld
  refine hK.out _ _ ?_ (fun hHeld => ?_)
  · trivial
  clear hK K hOld
  try simp only [List.foldl_cons, List.foldl_nil, List.length_cons, List.length_nil, Act.put, List.setIfInBounds_toArray, List.set_cons_zero, List.set_cons_succ]
  refine held_take 7 (some 6) (v := ?_) rfl rfl (by kernel_rfl) (by kernel_rfl) (by kernel_rfl) (fun _ _ _ _ h => h) (by kernel_rfl) ?_ hHeld ?_
  rotate_left 1
  · intro w hSw; (try dsimp only at hSw); go_simp; (try with_reducible rfl)
  try simp only [List.foldl_cons, List.foldl_nil, List.length_cons, List.length_nil, Act.put, List.setIfInBounds_toArray, List.set_cons_zero, List.set_cons_succ]
  refine wpAnyH_done (by kernel_rfl) ?_ _
  have hglue : ∀ j, j < 0 + 1 → glue (glue (glue P 0 P) (0 + 0) Q) (0 + 0 + 1) P j = glue P 0 Q j := fun j hj => by
    obtain rfl : j = 0 := by omega
    rfl
  go_wp2
  go_ret
  have hown5 : w4.ownsRow w.heap.size 35 4 v4 (0 + 1) (pes (glue P 0 Q) (0 + 1)) := by
    have h5 : w4.ownsRow w.heap.size 35 4 v4 (0 + 1) (pes (glue (glue (glue P 0 P) (0 + 0) Q) (0 + 0 + 1) P) (0 + 1)) := hown4
    rw [pes_congr hglue] at h5
    exact h5
  exact ⟨v4, rfl, hown5, (hb2.drew.grown hg3 hs2 (fun b hb => (HR2.out.lt b hb).1)).grown hg4 (Nat.le_trans hs2 hg3.size) (fun b hb => (hown3.lt b hb).1)⟩

/-- The list with one step more. -/
theorem put7_all (c : Option Addr) (len cap : Nat) (P : Nat → PE) (b : Addr) (x : ByteArray) (w : World) (h : PesIn w c len cap P) (hq : PesIn w (some b) 1 1 (fun _ => ⟨true, x, 0, none, 0, fun _ => ⟨#[]⟩, 0, none, 0, fun _ => 0⟩)) (hlen : len ≤ 12) :
    Calls Tryd.prog 10 #[.slice c len cap, .int .i64 len, .slice (some b) 1 1] w
    fun e w' => ∃ c' cap', e = .returned (.slice c' (len + 1) cap') ∧ PesIn w' c' (len + 1) cap' (glue P len (fun _ => ⟨true, x, 0, none, 0, fun _ => ⟨#[]⟩, 0, none, 0, fun _ => 0⟩)) ∧ Below w.heap.size w w' := by
  have fin : ∀ (v' : Value) (w' : World), w'.ownsRow w.heap.size 35 4 v' (len + 1) (pes (glue P len (fun _ => ⟨true, x, 0, none, 0, fun _ => ⟨#[]⟩, 0, none, 0, fun _ => 0⟩)) (len + 1)) → Below w.heap.size w w' → ∃ c' cap', v' = .slice c' (len + 1) cap' ∧ PesIn w' c' (len + 1) cap' (glue P len (fun _ => ⟨true, x, 0, none, 0, fun _ => ⟨#[]⟩, 0, none, 0, fun _ => 0⟩)) := fun v' w' hr hb => by
    refine row_in hr (fun j hj => ?_)
    by_cases hjl : j < len
    · simp only [glue, hjl, if_true]
      obtain ⟨a, -, hp⟩ := h.at hjl
      exact ⟨hp.2.2.2.2.1.below hb, hp.2.2.2.2.2.below hb⟩
    · simp only [glue, hjl, if_false]
      exact ⟨.inl ⟨rfl, rfl, rfl⟩, .inl ⟨rfl, rfl, rfl⟩⟩
  rcases h with ⟨rfl, rfl, rfl⟩ | ⟨a, rfl, h1, h2, h3⟩
  · refine (put7_nil P b _ w hq).mono ?_
    rintro e w' ⟨v', rfl, hr, hb⟩
    obtain ⟨c', cap', rfl, hin⟩ := fin v' w' hr hb
    exact ⟨c', cap', rfl, hin, hb⟩
  · refine (put7_any a len cap P b _ w (.inr ⟨a, rfl, h1, h2, h3⟩) hq hlen).mono ?_
    rintro e w' ⟨v', rfl, hr, hb⟩
    obtain ⟨c', cap', rfl, hin⟩ := fin v' w' hr hb
    exact ⟨c', cap', rfl, hin, hb⟩
end Go.Proofs.YtbdadgkjiondgaaDoor.see
