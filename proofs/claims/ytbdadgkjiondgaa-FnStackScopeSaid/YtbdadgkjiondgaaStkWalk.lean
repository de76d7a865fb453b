/-
  FnStackScope: the law's walk.
-/
import Derived.Test.YtbdadgkjiondgaaStkTests
namespace Go.Proofs.Ytbdadgkjiondgaa.fnStackScope
open Go.RowKit Go.Maps Go.WideMaps
set_option linter.unusedSimpArgs false
set_option linter.unusedVariables false

theorem SesIn.congr {w : World} {c : Option Addr} {len len' cap : Nat} {E F : Nat → SE} (h : SesIn w c len cap E) (hl : len = len') (he : ∀ i, i < len → E i = F i) : SesIn w c len' cap F := by
  subst hl
  rcases h with h | ⟨a, rfl, h1, h2, h3⟩
  · exact .inl h
  · exact .inr ⟨a, rfl, h1, h2, fun i hi => by rw [← he i hi]; exact h3 i hi⟩

def allE (E : Nat → SE) (n : Nat) (C : SE) (F : Nat → SE) : Nat → SE := fun i => if i < n then E i else if i = n then C else F (i - n - 1)
def aloneE (C : SE) (F : Nat → SE) : Nat → SE := fun i => if i = 0 then C else F (i - 1)

theorem three_steps (g : Nat) (a0 : Option Addr) (n0 c0 : Nat) (E : Nat → SE) (a1 : Option Addr) (c1 : Nat) (C : SE) (a2 : Option Addr) (n2 c2 : Nat) (F : Nat → SE) (w : World)
    (k0 : w.cell? ⟨g, 0, none⟩ = some (.slice a0 n0 c0)) (k1 : w.cell? ⟨g, 1, none⟩ = some (.slice a1 1 c1)) (k2 : w.cell? ⟨g, 2, none⟩ = some (.slice a2 n2 c2))
    (s0 : SesIn w a0 n0 c0 E) (s1 : SesIn w a1 1 c1 (fun _ => C)) (s2 : SesIn w a2 n2 c2 F) (h0 : n0 ≤ 60) (h2 : n2 ≤ 60) :
    Calls Try.prog 9 #[.slice (some ⟨g, 0, none⟩) 3 3] w
    fun e w' => ∃ c cap, e = .returned (.slice c (n0 + 1 + n2) cap) ∧ SesIn w' c (n0 + 1 + n2) cap (allE E n0 C F) ∧ Below w.heap.size w w' := by
  have hN : accN (fun j => [n0, 1, n2].getD j 0) 3 = n0 + 1 + n2 := by simp [accN]
  refine (steps7_any g 3 (fun j => [a0, a1, a2].getD j none) (fun j => [n0, 1, n2].getD j 0) (fun j => [c0, c1, c2].getD j 0) (fun j => [E, fun _ => C, F].getD j E) w ?_ ?_ ?_ (by omega)).mono ?_
  · intro j hj
    rcases (show j = 0 ∨ j = 1 ∨ j = 2 by omega) with rfl | rfl | rfl
    · exact k0
    · exact k1
    · exact k2
  · intro j hj
    rcases (show j = 0 ∨ j = 1 ∨ j = 2 by omega) with rfl | rfl | rfl
    · exact s0
    · exact s1
    · exact s2
  · intro j hj
    rcases (show j = 0 ∨ j = 1 ∨ j = 2 by omega) with rfl | rfl | rfl
    · exact h0
    · show 1 ≤ 60; omega
    · exact h2
  · rintro e w' ⟨c, cap, rfl, hs, hb⟩
    rw [hN] at hs ⊢
    refine ⟨c, cap, rfl, hs.congr rfl (fun i hi => ?_), hb⟩
    simp [accE, accN, glue, allE]
    by_cases h1 : i < n0
    · simp [h1, show i < n0 + 1 by omega]
    · by_cases h3 : i = n0
      · subst h3; simp
      · have : ¬ i < n0 + 1 := by omega
        simp [h1, h3, this]
        rw [Nat.sub_sub]

theorem two_steps (g : Nat) (a1 : Option Addr) (c1 : Nat) (C : SE) (a2 : Option Addr) (n2 c2 : Nat) (F : Nat → SE) (w : World)
    (k1 : w.cell? ⟨g, 0, none⟩ = some (.slice a1 1 c1)) (k2 : w.cell? ⟨g, 1, none⟩ = some (.slice a2 n2 c2))
    (s1 : SesIn w a1 1 c1 (fun _ => C)) (s2 : SesIn w a2 n2 c2 F) (h2 : n2 ≤ 60) :
    Calls Try.prog 9 #[.slice (some ⟨g, 0, none⟩) 2 2] w
    fun e w' => ∃ c cap, e = .returned (.slice c (1 + n2) cap) ∧ SesIn w' c (1 + n2) cap (aloneE C F) ∧ Below w.heap.size w w' := by
  have hN : accN (fun j => [1, n2].getD j 0) 2 = 1 + n2 := by simp [accN]
  refine (steps7_any g 2 (fun j => [a1, a2].getD j none) (fun j => [1, n2].getD j 0) (fun j => [c1, c2].getD j 0) (fun j => [fun _ => C, F].getD j F) w ?_ ?_ ?_ (by omega)).mono ?_
  · intro j hj
    rcases (show j = 0 ∨ j = 1 by omega) with rfl | rfl
    · exact k1
    · exact k2
  · intro j hj
    rcases (show j = 0 ∨ j = 1 by omega) with rfl | rfl
    · exact s1
    · exact s2
  · intro j hj
    rcases (show j = 0 ∨ j = 1 by omega) with rfl | rfl
    · show 1 ≤ 60; omega
    · exact h2
  · rintro e w' ⟨c, cap, rfl, hs, hb⟩
    rw [hN] at hs ⊢
    refine ⟨c, cap, rfl, hs.congr rfl (fun i hi => ?_), hb⟩
    simp [accE, accN, glue, aloneE]

theorem outs_le (X : Nat → St) (j : Nat) : -1 ≤ outs X j ∧ outs X j ≤ j := by
  unfold outs found
  split
  · cases hl : look (after X j) (X j).name (after X j).length with
    | none => simp [num]
    | some n =>
      obtain ⟨f, hf, rfl⟩ := look_mem _ hl
      have := after_val X j f hf
      simp [num]
      omega
  · omega

theorem founds_get (X : Nat → St) {n j : Nat} (h : j < n) : (founds X n)[j]? = some (.int .i64 (outs X j)) := by
  unfold founds
  rw [List.getElem?_map, List.getElem?_range h]
  rfl

theorem seIn_call (w : World) (a1 : Option Addr) (n1 c1 : Nat) (S : Nat → ByteArray) (h : StrsIn w a1 n1 c1 S) : SesIn (w.alloc (.cells #[.int .i64 1, .slice a1 n1 c1, .string ⟨#[]⟩, .int .i64 0, .bool false] 27)) (some ⟨w.heap.size, 0, none⟩) 1 1 (fun _ => ⟨1, a1, n1, c1, S, ⟨#[]⟩, 0, false⟩) := by
  refine .inr ⟨_, rfl, by omega, by unfold maxLen; omega, fun i hi => ?_⟩
  obtain rfl : i = 0 := by omega
  rw [show (0 * 5) = 0 from rfl, show (⟨w.heap.size, 0, none⟩ : Addr).add 0 = ⟨w.heap.size, 0, none⟩ from rfl]
  exact ⟨cell_at rfl rfl, cell_at rfl rfl, cell_at rfl rfl, cell_at rfl rfl, cell_at rfl rfl, h.below (Below.alloc (Below.refl _ _) (Nat.le_refl _) _)⟩

set_option maxRecDepth 100000 in
set_option maxHeartbeats 1600000 in
theorem walk (a0 : Option Addr) (len0 cap0 : Nat) (E : Nat → SE) (a1 : Option Addr) (len1 cap1 : Nat) (S : Nat → ByteArray) (a2 : Option Addr) (len2 cap2 : Nat) (F : Nat → SE) (w : World) (w0 : SesIn w a0 len0 cap0 E) (w1 : StrsIn w a1 len1 cap1 S) (w2 : SesIn w a2 len2 cap2 F) :
    Calls Try.prog 3 #[.slice a0 len0 cap0, .slice a1 len1 cap1, .slice a2 len2 cap2] w fun e w' => e = .returned (.bool true) ∧ Below w.heap.size w w' := by
  have H0 := Lib.hid w0
  have H1 := Lib.hid w1
  have H2 := Lib.hid w2
  clear w0 w1 w2
  go_enter Try.func3, Try.ntmps3
  go_wp2_with fail
  refine (fits13_yes a0 len0 cap0 E _ H0.out).mono ?_
  rintro e x1 ⟨⟨b1, rfl, hb1⟩, hB1⟩
  have HB1 := Lib.hid hb1
  clear hb1
  cases b1
  · go_wp2
    go_ret
    exact ⟨rfl, hB1⟩
  go_wp2_with fail
  refine (fits5_yes a1 len1 cap1 S _ (H1.out.below hB1)).mono ?_
  rintro e x2 ⟨⟨b2, rfl, hb2⟩, rfl⟩
  have HB2 := Lib.hid hb2
  clear hb2
  cases b2
  · go_wp2
    go_ret
    exact ⟨rfl, hB1⟩
  go_wp2_with fail
  refine (fits13_yes a2 len2 cap2 F _ (H2.out.below hB1)).mono ?_
  rintro e x3 ⟨⟨b3, rfl, hb3⟩, hB3⟩
  have HB3 := Lib.hid hb3
  clear hb3
  have hBx := below_step (Nat.le_refl _) hB1 hB3
  cases b3
  · go_wp2
    go_ret
    exact ⟨rfl, hBx⟩
  clear hB1 hB3
  by_cases hl0 : (60 : Int) < len0
  · go_wp2
    go_ret
    exact ⟨rfl, hBx⟩
  by_cases hl2 : (60 : Int) < len2
  · go_wp2
    go_ret
    exact ⟨rfl, hBx⟩
  go_wp2_with fail
  refine (right_yes a0 len0 cap0 E _ (H0.out.below hBx) (by omega)).mono ?_
  rintro e x4 ⟨⟨b4, rfl, hb4⟩, rfl⟩
  have HB4 := Lib.hid hb4
  clear hb4
  cases b4
  · go_wp2
    go_ret
    exact ⟨rfl, hBx⟩
  go_wp2_with fail
  refine (pushes_yes a2 len2 cap2 F _ (H2.out.below hBx) (by omega)).mono ?_
  rintro e x5 ⟨⟨b5, rfl, hb5⟩, rfl⟩
  have HB5 := Lib.hid hb5
  clear hb5
  cases b5
  · go_wp2
    go_ret
    exact ⟨rfl, hBx⟩
  go_wp2_with fail
  obtain ⟨CE, hCE⟩ : ∃ CE : SE, CE = ⟨1, a1, len1, cap1, S, ⟨#[]⟩, 0, false⟩ := ⟨_, rfl⟩
  have hC : SesIn (x3.alloc (.cells #[.int .i64 1, .slice a1 len1 cap1, .string ⟨#[]⟩, .int .i64 0, .bool false] 27)) (some ⟨x3.heap.size, 0, none⟩) 1 1 (fun _ => CE) := by rw [hCE]; exact seIn_call _ _ _ _ _ (H1.out.below hBx)
  have hCok : SeOk CE := by rw [hCE]; exact ⟨(HB2.out (by first | rfl | trivial)).1, (HB2.out (by first | rfl | trivial)).2, by show ((0 : Nat) : Int) ≤ _; omega⟩
  have hCk : CE.kind = 1 := by rw [hCE]
  have hB4 := HB4.out (by first | rfl | trivial)
  have hB5 := HB5.out (by first | rfl | trivial)
  have hB1 := HB1.out (by first | rfl | trivial)
  have hB3 := HB3.out (by first | rfl | trivial)
  have all3 : ∀ (Q : SE → Prop), (∀ i, i < len0 → Q (E i)) → Q CE → (∀ i, i < len2 → Q (F i)) → ∀ i, i < len0 + 1 + len2 → Q (allE E len0 CE F i) := fun Q q0 q1 q2 i hi => by
    unfold allE
    split
    · rename_i h; exact q0 i h
    · split
      · exact q1
      · exact q2 _ (by omega)
  have all2 : ∀ (Q : SE → Prop), Q CE → (∀ i, i < len2 → Q (F i)) → ∀ i, i < 1 + len2 → Q (aloneE CE F i) := fun Q q1 q2 i hi => by
    unfold aloneE
    split
    · exact q1
    · exact q2 _ (by omega)
  have pk : ∀ e : SE, SePush e → 1 ≤ e.kind ∧ e.kind ≤ 5 := fun e h => by rcases h with h | h | h <;> omega
  have pv : ∀ e : SE, SePush e → e.kind = 3 → 1 ≤ e.val := fun e h h3 => by rcases h with h | h | h <;> omega
  have okA := Lib.hid (all3 SeOk hB1 hCok hB3)
  have kA := Lib.hid (all3 (fun e => 1 ≤ e.kind ∧ e.kind ≤ 5) (fun i hi => (hB4 i hi).1) (by rw [hCk]; omega) (fun i hi => pk _ (hB5 i hi)))
  have vA := Lib.hid (all3 (fun e => e.kind = 3 → 1 ≤ e.val) (fun i hi => (hB4 i hi).2) (by rw [hCk]; omega) (fun i hi => pv _ (hB5 i hi)))
  have okB := Lib.hid (all2 SeOk hCok hB3)
  have kB := Lib.hid (all2 (fun e => 1 ≤ e.kind ∧ e.kind ≤ 5) (by rw [hCk]; omega) (fun i hi => pk _ (hB5 i hi)))
  have vB := Lib.hid (all2 (fun e => e.kind = 3 → 1 ≤ e.val) (by rw [hCk]; omega) (fun i hi => pv _ (hB5 i hi)))
  have HSC := Lib.hid (scope (fun i => stOf (allE E len0 CE F i)) (fun i => stOf (aloneE CE F i)) len0 len2 (by show (stOf (aloneE CE F 0)).kind = 1; show (aloneE CE F 0).kind = 1; simp [aloneE, hCk]) (fun i hi => by
      show stOf _ = stOf _
      congr 1
      unfold allE aloneE
      by_cases h : i = 0
      · subst h; simp
      · rw [if_neg (by omega), if_neg (by omega), if_neg h]; congr 1; omega) (fun i h0 hi => by
      show (stOf (aloneE CE F i)).kind = 1 ∨ _
      have e : aloneE CE F i = F (i - 1) := by unfold aloneE; rw [if_neg (by omega)]
      show (aloneE CE F i).kind = 1 ∨ (aloneE CE F i).kind = 2 ∨ (aloneE CE F i).kind = 5
      rw [e]
      exact hB5 _ (by omega)))
  have HC := Lib.hid hC
  clear hC hCok hCk hB4 hB5 hB1 hB3 all3 all2 pk pv hCE HB1 HB2 HB3 HB4 HB5
  have hL1 : Below (x3.alloc (.cells #[.int .i64 1, .slice a1 len1 cap1, .string ⟨#[]⟩, .int .i64 0, .bool false] 27)).heap.size (x3.alloc (.cells #[.int .i64 1, .slice a1 len1 cap1, .string ⟨#[]⟩, .int .i64 0, .bool false] 27)) ((x3.alloc (.cells #[.int .i64 1, .slice a1 len1 cap1, .string ⟨#[]⟩, .int .i64 0, .bool false] 27)).alloc (.cells #[.slice a0 len0 cap0, .slice (some ⟨x3.heap.size, 0, none⟩) 1 1, .slice a2 len2 cap2] 22)) := by go_grown
  have hW1 : Below w.heap.size w ((x3.alloc (.cells #[.int .i64 1, .slice a1 len1 cap1, .string ⟨#[]⟩, .int .i64 0, .bool false] 27)).alloc (.cells #[.slice a0 len0 cap0, .slice (some ⟨x3.heap.size, 0, none⟩) 1 1, .slice a2 len2 cap2] 22)) := below_step (Nat.le_refl _) hBx (by go_grown)
  refine (three_steps (x3.heap.size + 1) a0 len0 cap0 E (some ⟨x3.heap.size, 0, none⟩) 1 CE a2 len2 cap2 F _ (cell_at (by simp) rfl) (cell_at (by simp) rfl) (cell_at (by simp) rfl) (H0.out.below hW1) (HC.out.below hL1) (H2.out.below hW1) (by omega) (by omega)).mono ?_
  rintro e x6 ⟨cA, pA, rfl, hA, hB6⟩
  have HA := Lib.hid hA
  have hL2 := below_step (Nat.le_refl _) hL1 hB6
  have hW2 := below_step (Nat.le_refl _) hW1 hB6
  clear hA hL1 hW1 hB6
  go_wp2_with fail
  refine (implStack_any cA (len0 + 1 + len2) pA _ _ HA.out (by omega) okA.out kA.out vA.out).mono ?_
  rintro e x7 ⟨v1, v2, v3, rfl, hown, hB7⟩
  obtain ⟨aoA, cpA, rfl⟩ := owns_slice hown
  have HOA := Lib.hid hown
  have hL3 := below_step (Nat.le_refl _) hL2 hB7
  have hW3 := below_step (Nat.le_refl _) hW2 hB7
  clear hown hL2 hW2 hB7 HA okA kA vA
  go_wp2_with fail
  have hW4 : Below w.heap.size w (x7.alloc (.cells #[.slice (some ⟨x3.heap.size, 0, none⟩) 1 1, .slice a2 len2 cap2] 22)) := below_step (Nat.le_refl _) hW3 (by go_grown)
  have hL4 := below_step (Nat.le_refl _) hL3 (show Below x7.heap.size x7 (x7.alloc (.cells #[.slice (some ⟨x3.heap.size, 0, none⟩) 1 1, .slice a2 len2 cap2] 22)) by go_grown)
  have HOA2 := Lib.hid (own_below HOA.out (show Below x7.heap.size x7 (x7.alloc (.cells #[.slice (some ⟨x3.heap.size, 0, none⟩) 1 1, .slice a2 len2 cap2] 22)) by go_grown))
  refine (two_steps x7.heap.size (some ⟨x3.heap.size, 0, none⟩) 1 CE a2 len2 cap2 F _ (cell_at rfl rfl) (cell_at rfl rfl) (HC.out.below hL4) (H2.out.below hW4) (by omega)).mono ?_
  rintro e x8 ⟨cB, pB, rfl, hB, hB8⟩
  have HB := Lib.hid hB
  have hW5 := below_step (Nat.le_refl _) hW4 hB8
  have HOA3 := Lib.hid (own_below HOA2.out hB8)
  clear hB hL3 hL4 HC HOA HOA2 hW4 hB8 H0 H1 H2
  go_wp2_with fail
  refine (implStack_any cB (1 + len2) pB _ _ HB.out (by omega) okB.out kB.out vB.out).mono ?_
  rintro e x9 ⟨v4, v5, v6, rfl, hown, hB9⟩
  have HOA4 := Lib.hid (own_below HOA3.out hB9)
  have hW6 := below_step (Nat.le_refl _) hW5 hB9
  clear HOA3 hW5 hB9 HB okB kB vB
  rcases own_form HOA4.out with ⟨-, h0⟩ | ⟨gA, capA, hvA, -, -, hA1, hA2⟩
  · omega
  rcases own_form hown with ⟨-, h0⟩ | ⟨gB, capB, rfl, -, -, hB1, hB2⟩
  · omega
  cases hvA
  have HOB := Lib.hid hown
  clear hown
  go_wp2
  go_loop [16] (fun i => ∃ k : Nat, k ≤ 1 + len2 ∧ i = .int .i64 k) (fun i => 1 + len2 - (intOf i).toNat)
  case atStart => exact ⟨0, Nat.zero_le _, rfl⟩
  case round =>
    obtain ⟨k, hk, rfl⟩ := hrel
    by_cases hlt : k < 1 + len2
    · have hsc := HSC.out k (by omega)
      have cB := own_cell HOB.out rfl (show k < 1 + len2 from hlt) (founds_get _ hlt)
      have cA := own_cell HOA4.out rfl (show len0 + k < len0 + 1 + len2 by omega) (founds_get _ (show len0 + k < len0 + 1 + len2 by omega))
      have hbd := outs_le (fun i => stOf (aloneE CE F i)) k
      rw [hsc] at cA
      clear hsc
      generalize outs (fun i => stOf (aloneE CE F i)) k = o at *
      by_cases h0 : 0 ≤ o
      · rw [if_pos h0] at cA
        go_wp2
        go_round
        case rel => exact ⟨k + 1, by omega, by go_num⟩
        case measure => first | (simp [intOf]; done) | (simp [intOf]; omega)
      · rw [if_neg h0] at cA
        go_wp2
        go_round
        case rel => exact ⟨k + 1, by omega, by go_num⟩
        case measure => first | (simp [intOf]; done) | (simp [intOf]; omega)
    · go_wp2
      go_ret
      exact ⟨rfl, hW6⟩
end Go.Proofs.Ytbdadgkjiondgaa.fnStackScope
