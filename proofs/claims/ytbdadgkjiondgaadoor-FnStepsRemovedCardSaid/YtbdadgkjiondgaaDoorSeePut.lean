/-
  FnStepsRemoved: steps put behind steps.
-/
import Derived.Test.YtbdadgkjiondgaaDoorSeeImpl
import Derived.Test.YtbdadgkjiondgaaDoorHeld
import Derived.Deep.Slices
namespace Go.Proofs.YtbdadgkjiondgaaDoor.see
open Go.RowKit Go.Maps Go.WideMaps
set_option linter.unusedSimpArgs false
set_option linter.unusedVariables false

def peCells (e : PE) : List Value := [.bool e.is, .string e.rem, .slice e.na e.n e.nc, .slice e.ha e.m e.hc]

/-- The cells of the first k steps. -/
def pes (E : Nat → PE) (k : Nat) : List Value := (List.range k).flatMap fun j => peCells (E j)

theorem pes_succ (E : Nat → PE) (k : Nat) : pes E (k + 1) = pes E k ++ peCells (E k) := by
  unfold pes
  rw [List.range_succ, List.flatMap_append]
  simp

theorem pes_length (E : Nat → PE) (k : Nat) : (pes E k).length = k * 4 := by
  induction k with
  | zero => rfl
  | succ k ih => rw [pes_succ, List.length_append, ih]; simp [peCells]; omega

theorem pes_get (E : Nat → PE) {k : Nat} (j q : Nat) (hj : j < k) (hq : q < 4) : (pes E k)[j * 4 + q]? = (peCells (E j))[q]? := by
  induction k with
  | zero => omega
  | succ k ih =>
    have hl := pes_length E k
    rw [pes_succ]
    by_cases h : j < k
    · rw [List.getElem?_append_left (by omega)]
      exact ih h
    · obtain rfl : j = k := by omega
      rw [List.getElem?_append_right (by omega), hl]
      congr 1
      omega

theorem pes_congr {E F : Nat → PE} {k : Nat} (h : ∀ j, j < k → E j = F j) : pes E k = pes F k := by
  induction k with
  | zero => rfl
  | succ k ih => rw [pes_succ, pes_succ, ih (fun j hj => h j (by omega)), h k (by omega)]

/-- Steps behind others. -/
def glue (E : Nat → PE) (k : Nat) (F : Nat → PE) : Nat → PE := fun i => if i < k then E i else F (i - k)

theorem pes_glue (E : Nat → PE) (k : Nat) (F : Nat → PE) (n : Nat) : pes E k ++ pes F n = pes (glue E k F) (k + n) := by
  induction n with
  | zero =>
    show pes E k ++ [] = pes (glue E k F) k
    rw [List.append_nil]
    exact pes_congr (fun j hj => by simp [glue, hj])
  | succ n ih =>
    rw [pes_succ, ← List.append_assoc, ih, ← Nat.add_assoc, pes_succ]
    congr 2
    simp only [glue]
    rw [if_neg (by omega), Nat.add_sub_cancel_left]

/-- A row of steps, as a list. -/
theorem row_in {w : World} {B n : Nat} {e : TypeId} {v : Value} {E : Nat → PE} (h : w.ownsRow B e 4 v n (pes E n)) (hs : ∀ j, j < n → StrsIn w (E j).na (E j).n (E j).nc (E j).S ∧ IntsIn w (E j).ha (E j).m (E j).hc (E j).H) : ∃ c cap, v = .slice c n cap ∧ PesIn w c n cap E := by
  rcases own_form h with ⟨rfl, rfl⟩ | ⟨g, cap, rfl, h1, h2, h3, h4⟩
  · exact ⟨_, _, rfl, .inl ⟨rfl, rfl, rfl⟩⟩
  · refine ⟨_, _, rfl, .inr ⟨_, rfl, h3, h4, fun j hj => ?_⟩⟩
    have hc : ∀ q, q < 4 → w.cell? ⟨g, j * 4 + q, none⟩ = (peCells (E j))[q]? := fun q hq => (World.ownsRow.cellAt h (j * 4 + q) (by omega)).trans (pes_get E j q hj hq)
    refine ⟨?_, ?_, ?_, ?_, (hs j hj).1, (hs j hj).2⟩
    · rw [add_at0]; exact hc 0 (by omega)
    · rw [add_at _ _ _ (by omega)]; exact hc 1 (by omega)
    · rw [add_at _ _ _ (by omega)]; exact hc 2 (by omega)
    · rw [add_at _ _ _ (by omega)]; exact hc 3 (by omega)

/-- The cells of steps that lie in memory. -/
theorem pes_cells {w : World} {a : Addr} {len : Nat} {E : Nat → PE} (h : ∀ i, i < len → PeIn w (a.add (i * 4)) (E i)) : ∀ n u, (pes E len)[n]? = some u → w.cell? (a.add n) = some u := by
  intro n u hn
  have hlen' := pes_length E len
  have hn1 : n < len * 4 := by
    rcases Nat.lt_or_ge n (len * 4) with h | h
    · exact h
    · rw [List.getElem?_eq_none (by omega)] at hn; cases hn
  have e : n = n / 4 * 4 + n % 4 := by omega
  have hg := pes_get E (k := len) (n / 4) (n % 4) (by omega) (by omega)
  rw [← e, hn] at hg
  obtain ⟨c0, c1, c2, c3, -⟩ := h (n / 4) (by omega)
  have e3 : n % 4 = 0 ∨ n % 4 = 1 ∨ n % 4 = 2 ∨ n % 4 = 3 := by omega
  have ha : ∀ q, 0 < q → a.add (n / 4 * 4 + q) = ⟨(a.add (n / 4 * 4)).block, (a.add (n / 4 * 4)).off + q, none⟩ := fun q hq => by
    rw [← Go.Deep.add_add]
    show (if q = 0 then _ else _) = _
    rw [if_neg (by omega)]
  rw [e]
  rcases e3 with e3 | e3 | e3 | e3
  · rw [e3] at hg ⊢
    simp [peCells] at hg
    subst hg
    rw [Nat.add_zero]
    exact c0
  · rw [e3] at hg ⊢
    simp [peCells] at hg
    subst hg
    rw [ha 1 (by omega)]
    exact c1
  · rw [e3] at hg ⊢
    simp [peCells] at hg
    subst hg
    rw [ha 2 (by omega)]
    exact c2
  · rw [e3] at hg ⊢
    simp [peCells] at hg
    subst hg
    rw [ha 3 (by omega)]
    exact c3

theorem pes_one (E : Nat → PE) (k : Nat) : ∀ u ∈ pes E k, u.oneCell' = true := by
  intro u hu
  unfold pes at hu
  obtain ⟨j, -, hj⟩ := List.mem_flatMap.1 hu
  simp [peCells] at hj
  rcases hj with rfl | rfl | rfl | rfl <;> rfl

theorem infoStep : (Tryd.prog.info? 35).map (fun i => (i.zero, i.size, i.bytes)) = some (some (.agg #[.bool false, .string ⟨#[]⟩, .slice none 0 0, .slice none 0 0]), 4, 72) := by kernel_rfl

/-- A list of steps is put behind a row of steps. -/
theorem app_pes {w : World} {B k : Nat} {v : Value} {E F : Nat → PE} {c : Option Addr} {n cap : Nat} (h : w.ownsRow B 35 4 v k (pes E k)) (hs : PesIn w c n cap F) (hB : B ≤ w.heap.size) (hk : k + n ≤ 1000) :
    ∃ v' w', (Builtin.append_ #[22, 22] 22 #[v, .slice c n cap]).run Tryd.prog w = .ok v' w' ∧ (w'.ownsRow B 35 4 v' (k + n) (pes (glue E k F) (k + n)) ∧ w.grownBy w' v.ownBlock) := by
  obtain ⟨i0, hi, hz0, hz1, hz2⟩ := info_parts infoStep
  rcases hs with ⟨rfl, rfl, rfl⟩ | ⟨a, rfl, h1, h2, h3⟩
  · have hrun := run_append_owned_none (P := Tryd.prog) (w := w) B 22 22 35 i0 4 Tryd.underlying22 hi v k _ h
    refine ⟨_, _, hrun, ?_, World.grownBy.refl _ _⟩
    rw [← pes_glue]
    show w.ownsRow B _ 4 v k (pes E k ++ [])
    rw [List.append_nil]
    exact h
  · obtain ⟨v', w', hr, h4, h5, -⟩ := run_append_own (P := Tryd.prog) w B 22 22 35 i0 _ 4 72 Tryd.underlying22 hi hz0 hz1 hz2 rfl (by decide) v k _ h a n cap (pes F n) (pes_length _ _)
      (pes_cells h3) (pes_one _ _) (by unfold maxLen; omega) (by omega) hB
    rw [pes_glue] at h4
    exact ⟨v', w', hr, h4, h5⟩


set_option maxRecDepth 100000 in
set_option maxHeartbeats 1600000 in
theorem put7_any (a : Addr) (len cap : Nat) (P : Nat → PE) (b : Addr) (Q : Nat → PE) (w : World) (h : PesIn w (some a) len cap P) (hq : PesIn w (some b) 1 1 Q) (hlen : len ≤ 12) :
    Calls Tryd.prog 10 #[.slice (some a) len cap, .int .i64 len, .slice (some b) 1 1] w
    fun e w' => ∃ v', e = .returned v' ∧ w'.ownsRow w.heap.size 35 4 v' (len + 1) (pes (glue P len Q) (len + 1)) ∧ Below w.heap.size w w' := by
  have hcap : len ≤ cap := by 
    rcases h with ⟨h0, -⟩ | ⟨x, -, h1, -⟩
    · cases h0
    · exact h1
  have HP := Lib.hid h
  have HQ := Lib.hid hq
  clear h hq
  have hcm : cap ≤ maxLen := by
    rcases HP.out with ⟨h0, -⟩ | ⟨x, -, -, h1, -⟩
    · cases h0
    · exact h1
  have hb0 : Below w.heap.size w (w.alloc (.cells #[] 35)) := by go_grown
  have HP1 := Lib.hid (HP.out.below hb0)
  have hs0 : w.heap.size ≤ (w.alloc (.cells #[] 35)).heap.size := by simp
  have HR0 : Hid ((w.alloc (.cells #[] 35)).ownsRow w.heap.size 35 4 (.slice (some ⟨w.heap.size, 0, none⟩) 0 0) 0 (pes P 0)) := Lib.hid (World.ownsRow_made w #[] 0 (Nat.le_refl _) (by unfold maxLen; omega) rfl)
  go_enter Tryd.func10, Tryd.ntmps10
  go_wp2_with (at_builtin; refine wpList_append_run rfl (.tmp 8) (.tmp 11) 22 rfl (app_pes HR0.out HP1.out hs0 (by omega)) ?_; rintro v2 w2 ⟨hown2, hg2⟩)
  have hb2 : Below w.heap.size w w2 := hb0.grown hg2 hs0 (fun b hb => (HR0.out.lt b hb).1)
  have hs2 := hb2.size
  have HR2 : Hid (w2.drew.ownsRow w.heap.size 35 4 v2 (0 + len) (pes (glue P 0 P) (0 + len))) := Lib.hid hown2
  have HQ2 : Hid (PesIn w2.drew (some b) 1 1 Q) := Lib.hid ((HQ.out.below hb2).below ((Below.refl _ _).drew))
  have hg2' := Lib.hid hg2
  clear hown2 hg2 HR0 HP1 hb0 hs0
  have h0c : (0 : Int) ≤ len := by omega
  have hlc : (len : Int) ≤ cap := by omega
  by_cases hcl : cap = len
  · subst hcl
    refine held_begin (S := fun _ => True) 8 (by rfl) (by kernel_rfl) ?_ (fun hHeld => ?_)
    · trivial
    refine held_take 0 (some 13) (v := ?_) rfl rfl (by kernel_rfl) (by kernel_rfl) (by kernel_rfl) (fun _ _ _ _ h => h) (by kernel_rfl) ?_ hHeld ?_
    rotate_left 1
    · intro w hSw; (try dsimp only at hSw); go_simp; (try with_reducible rfl)
    try simp only [List.foldl_cons, List.foldl_nil, List.length_cons, List.length_nil, Act.put, List.setIfInBounds_toArray, List.set_cons_zero, List.set_cons_succ]
    refine held_take 1 (some 14) (v := ?_) rfl rfl (by kernel_rfl) (by kernel_rfl) (by kernel_rfl) (fun _ _ _ _ h => h) (by kernel_rfl) ?_ hHeld ?_
    rotate_left 1
    · intro w hSw; (try dsimp only at hSw); go_simp; (try with_reducible rfl)
    try simp only [List.foldl_cons, List.foldl_nil, List.length_cons, List.length_nil, Act.put, List.setIfInBounds_toArray, List.set_cons_zero, List.set_cons_succ]
    refine held_take 3 (some 16) (v := ?_) rfl rfl (by kernel_rfl) (by kernel_rfl) (by kernel_rfl) (fun _ _ _ _ h => h) (by kernel_rfl) ?_ hHeld ?_
    rotate_left 1
    · intro w hSw; (try dsimp only at hSw); go_simp; (try with_reducible rfl)
    try simp only [List.foldl_cons, List.foldl_nil, List.length_cons, List.length_nil, Act.put, List.setIfInBounds_toArray, List.set_cons_zero, List.set_cons_succ]
    refine held_take 4 (some 17) (v := ?_) rfl rfl (by kernel_rfl) (by kernel_rfl) (by kernel_rfl) (fun _ _ _ _ h => h) (by kernel_rfl) ?_ hHeld ?_
    rotate_left 1
    · intro w hSw; (try dsimp only at hSw); go_simp; (try with_reducible rfl)
    try simp only [List.foldl_cons, List.foldl_nil, List.length_cons, List.length_nil, Act.put, List.setIfInBounds_toArray, List.set_cons_zero, List.set_cons_succ]
    refine held_take 5 (some 18) (v := ?_) rfl rfl (by kernel_rfl) (by kernel_rfl) (by kernel_rfl) (fun _ _ _ _ h => h) (by kernel_rfl) ?_ hHeld ?_
    rotate_left 1
    · intro w hSw; (try dsimp only at hSw); go_simp; (try with_reducible rfl)
    try simp only [List.foldl_cons, List.foldl_nil, List.length_cons, List.length_nil, Act.put, List.setIfInBounds_toArray, List.set_cons_zero, List.set_cons_succ]
    refine wpAnyH_ready (rs := [2]) (by kernel_rfl) (by simp) ?_
    refine AllReadyH.cons rfl (fun K hK => ?_) AllReadyH.nil
    (refine step_append rfl (.tmp 13) (.tmp 14) 22 rfl (app_pes (w := w2.drew) HR2.out HQ2.out hs2 (by omega)) ?_; rintro v3 w3 ⟨hown3, hg3⟩; show K (Act.put _ (some 15) v3) w3)
    have hOld := hHeld
    clear hHeld
    refine hK.out _ _ ?_ (fun hHeld => ?_)
    · trivial
    clear hK K hOld
    try simp only [List.foldl_cons, List.foldl_nil, List.length_cons, List.length_nil, Act.put, List.setIfInBounds_toArray, List.set_cons_zero, List.set_cons_succ]
    refine wpAnyH_ready (rs := [6]) (by kernel_rfl) (by simp) ?_
    refine AllReadyH.cons rfl (fun K hK => ?_) AllReadyH.nil
    (refine step_append rfl (.tmp 15) (.tmp 18) 22 rfl (app_pes (w := w3) (F := P) hown3 (.inr ⟨_, rfl, by omega, by omega, fun i hi => absurd hi (by omega)⟩) (Nat.le_trans hs2 hg3.size) (by omega)) ?_; rintro v4 w4 ⟨hown4, hg4⟩; show K (Act.put _ (some 19) v4) w4)
    have hOld := hHeld
    clear hHeld
    refine hK.out _ _ ?_ (fun hHeld => ?_)
    · trivial
    clear hK K hOld
    try simp only [List.foldl_cons, List.foldl_nil, List.length_cons, List.length_nil, Act.put, List.setIfInBounds_toArray, List.set_cons_zero, List.set_cons_succ]
    refine held_take 7 (some 6) (v := ?_) rfl rfl (by kernel_rfl) (by kernel_rfl) (by kernel_rfl) (fun _ _ _ _ h => h) (by kernel_rfl) ?_ hHeld ?_
    rotate_left 1
    · intro w hSw; (try dsimp only at hSw); go_simp; (try with_reducible rfl)
    try simp only [List.foldl_cons, List.foldl_nil, List.length_cons, List.length_nil, Act.put, List.setIfInBounds_toArray, List.set_cons_zero, List.set_cons_succ]
    refine wpAnyH_done (by kernel_rfl) ?_ _
    have hglue : ∀ j, j < cap + 1 → glue (glue (glue P 0 P) (0 + cap) Q) (0 + cap + 1) P j = glue P cap Q j := fun j hj => by
      unfold glue
      simp [show j < 0 + cap + 1 by omega]
      try (intro hh; omega)
    go_wp2
    go_ret
    have hown5 : w4.ownsRow w.heap.size 35 4 v4 (cap + 1) (pes (glue P cap Q) (cap + 1)) := by
      have := hown4
      rw [Nat.add_zero, Nat.zero_add, pes_congr (by rw [Nat.zero_add] at hglue; exact hglue)] at this
      exact this
    exact ⟨v4, rfl, hown5, (hb2.drew.grown hg3 hs2 (fun b hb => (HR2.out.lt b hb).1)).grown hg4 (Nat.le_trans hs2 hg3.size) (fun b hb => (hown3.lt b hb).1)⟩
  · have hcl2 : ¬ (cap : Int) = len := by omega
    refine held_begin (S := fun _ => True) 8 (by rfl) (by kernel_rfl) ?_ (fun hHeld => ?_)
    · trivial
    refine held_take 0 (some 13) (v := ?_) rfl rfl (by kernel_rfl) (by kernel_rfl) (by kernel_rfl) (fun _ _ _ _ h => h) (by kernel_rfl) ?_ hHeld ?_
    rotate_left 1
    · intro w hSw; (try dsimp only at hSw); go_simp; (try with_reducible rfl)
    try simp only [List.foldl_cons, List.foldl_nil, List.length_cons, List.length_nil, Act.put, List.setIfInBounds_toArray, List.set_cons_zero, List.set_cons_succ]
    refine held_take 1 (some 14) (v := ?_) rfl rfl (by kernel_rfl) (by kernel_rfl) (by kernel_rfl) (fun _ _ _ _ h => h) (by kernel_rfl) ?_ hHeld ?_
    rotate_left 1
    · intro w hSw; (try dsimp only at hSw); go_simp; (try with_reducible rfl)
    try simp only [List.foldl_cons, List.foldl_nil, List.length_cons, List.length_nil, Act.put, List.setIfInBounds_toArray, List.set_cons_zero, List.set_cons_succ]
    refine held_take 3 (some 16) (v := ?_) rfl rfl (by kernel_rfl) (by kernel_rfl) (by kernel_rfl) (fun _ _ _ _ h => h) (by kernel_rfl) ?_ hHeld ?_
    rotate_left 1
    · intro w hSw; (try dsimp only at hSw); go_simp; (try with_reducible rfl)
    try simp only [List.foldl_cons, List.foldl_nil, List.length_cons, List.length_nil, Act.put, List.setIfInBounds_toArray, List.set_cons_zero, List.set_cons_succ]
    refine held_take 4 (some 17) (v := ?_) rfl rfl (by kernel_rfl) (by kernel_rfl) (by kernel_rfl) (fun _ _ _ _ h => h) (by kernel_rfl) ?_ hHeld ?_
    rotate_left 1
    · intro w hSw; (try dsimp only at hSw); go_simp; (try with_reducible rfl)
    try simp only [List.foldl_cons, List.foldl_nil, List.length_cons, List.length_nil, Act.put, List.setIfInBounds_toArray, List.set_cons_zero, List.set_cons_succ]
    refine held_take 5 (some 18) (v := ?_) rfl rfl (by kernel_rfl) (by kernel_rfl) (by kernel_rfl) (fun _ _ _ _ h => h) (by kernel_rfl) ?_ hHeld ?_
    rotate_left 1
    · intro w hSw; (try dsimp only at hSw); go_simp; (try with_reducible rfl)
    try simp only [List.foldl_cons, List.foldl_nil, List.length_cons, List.length_nil, Act.put, List.setIfInBounds_toArray, List.set_cons_zero, List.set_cons_succ]
    refine wpAnyH_ready (rs := [2]) (by kernel_rfl) (by simp) ?_
    refine AllReadyH.cons rfl (fun K hK => ?_) AllReadyH.nil
    (refine step_append rfl (.tmp 13) (.tmp 14) 22 rfl (app_pes (w := w2.drew) HR2.out HQ2.out hs2 (by omega)) ?_; rintro v3 w3 ⟨hown3, hg3⟩; show K (Act.put _ (some 15) v3) w3)
    have hOld := hHeld
    clear hHeld
    refine hK.out _ _ ?_ (fun hHeld => ?_)
    · trivial
    clear hK K hOld
    try simp only [List.foldl_cons, List.foldl_nil, List.length_cons, List.length_nil, Act.put, List.setIfInBounds_toArray, List.set_cons_zero, List.set_cons_succ]
    refine wpAnyH_ready (rs := [6]) (by kernel_rfl) (by simp) ?_
    refine AllReadyH.cons rfl (fun K hK => ?_) AllReadyH.nil
    (refine step_append rfl (.tmp 15) (.tmp 18) 22 rfl (app_pes (w := w3) (F := P) hown3 (.inr ⟨_, rfl, by omega, by omega, fun i hi => absurd hi (by omega)⟩) (Nat.le_trans hs2 hg3.size) (by omega)) ?_; rintro v4 w4 ⟨hown4, hg4⟩; show K (Act.put _ (some 19) v4) w4)
    have hOld := hHeld
    clear hHeld
    refine hK.out _ _ ?_ (fun hHeld => ?_)
    · trivial
    clear hK K hOld
    try simp only [List.foldl_cons, List.foldl_nil, List.length_cons, List.length_nil, Act.put, List.setIfInBounds_toArray, List.set_cons_zero, List.set_cons_succ]
    refine held_take 7 (some 6) (v := ?_) rfl rfl (by kernel_rfl) (by kernel_rfl) (by kernel_rfl) (fun _ _ _ _ h => h) (by kernel_rfl) ?_ hHeld ?_
    rotate_left 1
    · intro w hSw; (try dsimp only at hSw); go_simp; (try with_reducible rfl)
    try simp only [List.foldl_cons, List.foldl_nil, List.length_cons, List.length_nil, Act.put, List.setIfInBounds_toArray, List.set_cons_zero, List.set_cons_succ]
    refine wpAnyH_done (by kernel_rfl) ?_ _
    have hglue : ∀ j, j < len + 1 → glue (glue (glue P 0 P) (0 + len) Q) (0 + len + 1) P j = glue P len Q j := fun j hj => by
      unfold glue
      simp [show j < 0 + len + 1 by omega]
      try (intro hh; omega)
    go_wp2
    go_ret
    have hown5 : w4.ownsRow w.heap.size 35 4 v4 (len + 1) (pes (glue P len Q) (len + 1)) := by
      have := hown4
      rw [Nat.add_zero, Nat.zero_add, pes_congr (by rw [Nat.zero_add] at hglue; exact hglue)] at this
      exact this
    exact ⟨v4, rfl, hown5, (hb2.drew.grown hg3 hs2 (fun b hb => (HR2.out.lt b hb).1)).grown hg4 (Nat.le_trans hs2 hg3.size) (fun b hb => (hown3.lt b hb).1)⟩
end Go.Proofs.YtbdadgkjiondgaaDoor.see
