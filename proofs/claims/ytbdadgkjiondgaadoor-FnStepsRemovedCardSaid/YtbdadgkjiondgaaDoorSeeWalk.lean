/-
  FnSeen: the law's walk.
-/
import Derived.Test.YtbdadgkjiondgaaDoorSeeTests
import Derived.Test.YtbdadgkjiondgaaDoorSeeSpec3
namespace Go.Proofs.YtbdadgkjiondgaaDoor.see
open Go.RowKit Go.Maps Go.WideMaps Go.Sort
set_option linter.unusedSimpArgs false
set_option linter.unusedVariables false

theorem maxLen_num : maxLen ≤ 9223372036854775807 := by decide

set_option maxRecDepth 100000 in
set_option maxHeartbeats 1600000 in
theorem few_yes {T : World → Prop} (H : Tests T) (c : Option Addr) (len cap : Nat) (P : Nat → PE) (w : World) (h : PesIn w c len cap P) (hs : ∀ i, i < len → Short (P i)) (hT : T w) :
    Calls Tryd.prog 6 #[.slice c len cap] w fun e w' => Yes (len ≤ 12 ∧ ∀ i, i < len → RightP (P i)) e ∧ Below w.heap.size w w' := by
  have HH := Lib.hid H
  have HS := Lib.hid h
  have HT := Lib.hid hT
  have HSh := Lib.hid hs
  have hlm : len ≤ 9223372036854775807 := by
    have := maxLen_num
    rcases h with ⟨-, h0, -⟩ | ⟨a, -, h1, h2, -⟩ <;> omega
  clear H h hT hs
  go_enter Tryd.func6, Tryd.ntmps6
  go_wp2_with fail
  go_loop [3] (fun i => ∃ k : Nat, k ≤ len ∧ i = .int .i64 k ∧ Hid (∀ j, j < k → (P j).n ≤ 12)) (fun i => len - (intOf i).toNat)
  case atStart => exact ⟨0, Nat.zero_le _, rfl, Lib.hid (fun j hj => absurd hj (by omega))⟩
  case round =>
    obtain ⟨k, hk, rfl, HJ⟩ := hrel
    by_cases hlt : k < len
    · obtain ⟨a, rfl, hc⟩ := HS.out.at hlt
      obtain ⟨-, -, q2, -⟩ := hc
      by_cases hn : (12 : Int) < (P k).n
      · go_wp2
        go_ret
        exact ⟨⟨_, rfl, fun h => by cases h⟩, Below.refl _ _⟩
      · have HJ2 : Hid (∀ j, j < k + 1 → (P j).n ≤ 12) := Lib.hid (fun j hj => by
          by_cases hjk : j < k
          · exact HJ.out j hjk
          · obtain rfl : j = k := by omega
            omega)
        go_wp2
        go_round
        case rel => exact ⟨k + 1, by omega, by go_num, HJ2⟩
        case measure => first | (simp [intOf]; done) | (simp [intOf]; omega)
    · obtain rfl : k = len := by omega
      by_cases h12 : (k : Int) ≤ 12
      · go_wp2_with (go_at_call 12; refine (steps_yes HH.out c k cap P _ HS.out (by omega) HJ.out HSh.out HT.out).mono ?_; rintro e w1 ⟨⟨b, rfl, hb⟩, hb1⟩; have HB := Lib.hid hb; clear hb; cases b)
        · go_ret
          exact ⟨⟨_, rfl, fun h => by cases h⟩, hb1⟩
        · go_ret
          exact ⟨⟨_, rfl, fun _ => ⟨by omega, HB.out (by first | rfl | trivial)⟩⟩, hb1⟩
      · go_wp2
        go_ret
        exact ⟨⟨_, rfl, fun h => by simp at h⟩, Below.refl _ _⟩

theorem name_at {w : World} {B : Nat} {v : Value} {L : Fl} (h : w.ownsRow B 9 1 v L.length (namesL L)) {i : Nat} {a : Nm × Int} (ha : L[i]? = some a) : ∃ g cap, v = .slice (some ⟨g, 0, none⟩) L.length cap ∧ w.cell? ⟨g, i, none⟩ = some (.string ⟨a.1.toArray⟩) := by
  have hi : i < L.length := (List.getElem?_eq_some_iff.1 ha).1
  rcases own_form h with ⟨-, h2⟩ | ⟨g, cap, rfl, -⟩
  · omega
  · refine ⟨g, cap, rfl, (World.ownsRow.cellAt h i (by omega)).trans ?_⟩
    unfold namesL
    rw [List.getElem?_map, ha]
    rfl

theorem way_at {w : World} {B : Nat} {v : Value} {L : Fl} (h : w.ownsRow B 3 1 v L.length (waysL L L.length)) {i : Nat} {a : Nm × Int} (ha : L[i]? = some a) : ∃ g cap, v = .slice (some ⟨g, 0, none⟩) L.length cap ∧ w.cell? ⟨g, i, none⟩ = some (.int .i64 a.2) := by
  have hi : i < L.length := (List.getElem?_eq_some_iff.1 ha).1
  rcases own_form h with ⟨-, h2⟩ | ⟨g, cap, rfl, -⟩
  · omega
  · refine ⟨g, cap, rfl, (World.ownsRow.cellAt h i (by omega)).trans ?_⟩
    unfold waysL
    rw [List.take_length, List.getElem?_map, ha]
    rfl

set_option maxRecDepth 100000 in
set_option maxHeartbeats 3200000 in
theorem walk_seen {T : World → Prop} (H : Tests T) (c : Option Addr) (len cap : Nat) (P : Nat → PE) (w : World) (h : PesIn w c len cap P) (hT : T w) :
    Calls Tryd.prog 3 #[.slice c len cap] w fun e w' => e = .returned (.bool true) ∧ Below w.heap.size w w' := by
  have HH := Lib.hid H
  have HS := Lib.hid h
  have HT := Lib.hid hT
  clear H h hT
  go_enter Tryd.func3, Tryd.ntmps3
  go_wp2_with (go_at_call 5; refine (fits11_yes c len cap P _ HS.out).mono ?_; rintro e w1 ⟨⟨b, rfl, hb⟩, hb1⟩; have HB := Lib.hid hb; clear hb; cases b)
  · go_ret
    exact ⟨rfl, hb1⟩
  have HS1 := Lib.hid (HS.out.below hb1)
  have HT1 := Lib.hid (HH.out.later _ _ HT.out hb1)
  have HShort := Lib.hid (HB.out (by first | rfl | trivial))
  clear HB
  refine (few_yes HH.out c len cap P _ HS1.out HShort.out HT1.out).mono ?_
  rintro e w2 ⟨⟨b, rfl, hb⟩, hb2'⟩
  have HB := Lib.hid hb
  have hb2 := below_step (Nat.le_refl _) hb1 hb2'
  clear hb
  cases b
  · go_wp2
    go_ret
    exact ⟨rfl, hb2⟩
  obtain ⟨h12, hr⟩ := HB.out (by first | rfl | trivial)
  have HS2 := Lib.hid (HS1.out.below hb2')
  have HOk : Hid (∀ i, i < len → PeOk (P i)) := Lib.hid (fun i hi => ⟨(hr i hi).1, (HShort.out i hi).1, (HShort.out i hi).2.2, (hr i hi).2⟩)
  obtain ⟨L, hL⟩ : ∃ L, L = madeL (fun i => spP (P i)) len := ⟨_, rfl⟩
  have HLs : Hid (Says L (madeV (fun i => spP (P i)) len)) := Lib.hid (by rw [hL]; exact made_says _ len (fun i hi => (hr i hi).2) len (Nat.le_refl _))
  have hLn : L.length ≤ 144 := by
    rw [hL]
    have := made_le (fun i => spP (P i)) len (fun i hi => (hr i hi).2.few)
    omega
  have HL := Lib.hid hL
  clear hr HB hL
  go_wp2_with fail
  refine (Visible_any c len cap P _ HS2.out (by omega) HOk.out L HLs.out).mono ?_
  rintro e w3 ⟨v2, v3, rfl, hn3, hw3, hb3'⟩
  have HN3 := Lib.hid hn3
  have HW3 := Lib.hid hw3
  have hb3 := below_step (Nat.le_refl _) hb2 hb3'
  have HS3 := Lib.hid (HS2.out.below hb3')
  clear hn3 hw3
  go_wp2_with fail
  refine (MadeBy_any c len cap P _ HS3.out (by omega) HOk.out).mono ?_
  rintro e w4 ⟨v4, rfl, hm4, hb4'⟩
  rw [← HL.out] at hm4
  have HM4 := Lib.hid hm4
  have HN4 := Lib.hid (own_below HN3.out hb4')
  have HW4 := Lib.hid (own_below HW3.out hb4')
  have hb4 := below_step (Nat.le_refl _) hb3 hb4'
  clear hm4 HN3 HW3 HS HS1 HS2 HS3 HT HT1 HShort HOk HLs HL hb1 hb2' hb2 hb3' hb3 hb4'
  obtain ⟨a2, c2, rfl⟩ := owns_slice HN4.out
  obtain ⟨a3, c3, rfl⟩ := owns_slice HW4.out
  obtain ⟨a4, c4, rfl⟩ := owns_slice HM4.out
  go_wp2_with fail
  go_loopw [7] (fun i wr => ∃ k : Nat, k ≤ L.length ∧ i = .int .i64 k ∧ Below w4.heap.size w4 wr) (fun i _ => L.length - (intOf i).toNat)
  case atStart => exact ⟨0, Nat.zero_le _, rfl, Below.refl _ _⟩
  case round =>
    obtain ⟨k, hk, rfl, hbel⟩ := hrel
    by_cases hlt : k < L.length
    · obtain ⟨gm, cpm, s, c, e4, hat, m0, m1⟩ := HM4.out.at hlt
      obtain ⟨gn, cpn, e2, p0⟩ := name_at HN4.out hat
      obtain ⟨gw, cpw, e3, p1⟩ := way_at HW4.out hat
      obtain ⟨rfl, -, rfl⟩ := slice_inj e4
      obtain ⟨rfl, -, rfl⟩ := slice_inj e2
      obtain ⟨rfl, -, rfl⟩ := slice_inj e3
      have p0' : w4.cell? ⟨gn, k, none⟩ = some (.string s) := by rw [p0]
      have n0 := cell_later hbel p0'
      have n1 := cell_later hbel p1
      have n2 := cell_later hbel m0
      have n3 := cell_later hbel m1
      simp only at n1
      have hk0 : (0 : Int) ≤ k := by omega
      have hkn : (k : Int) < L.length := by omega
      clear e2 e3 e4 hat m0 m1 p0 p1 p0'
      go_wp2_with fail
      refine held_begin (S := fun w' => w'.cell? ⟨gn, k, none⟩ = some (.string s) ∧ w'.cell? ⟨gw, k, none⟩ = some (.int .i64 c) ∧ w'.cell? ⟨gm, k * 2, none⟩ = some (.string s) ∧ w'.cell? ⟨gm, k * 2 + 1, none⟩ = some (.int .i64 c)) 24 (by rfl) (by kernel_rfl) ?_ (fun hHeld => ?_)
      · exact ⟨by simpa using n0, by simpa using n1, by simpa using n2, by simpa using n3⟩
      refine held_take 0 (some 44) (v := ?_) rfl rfl (by kernel_rfl) (by kernel_rfl) (by kernel_rfl) (fun _ _ _ _ h => h) (by kernel_rfl) ?_ hHeld ?_
      rotate_left 1
      · intro w hSw; (try dsimp only at hSw); go_simp; (try with_reducible rfl)
      try simp only [List.foldl_cons, List.foldl_nil, List.length_cons, List.length_nil, Act.put, List.setIfInBounds_toArray, List.set_cons_zero, List.set_cons_succ]
      refine held_take 1 (some 45) (v := ?_) rfl rfl (by kernel_rfl) (by kernel_rfl) (by kernel_rfl) (fun _ _ _ _ h => h) (by kernel_rfl) ?_ hHeld ?_
      rotate_left 1
      · intro w hSw; (try dsimp only at hSw); go_simp; (try with_reducible rfl)
      try simp only [List.foldl_cons, List.foldl_nil, List.length_cons, List.length_nil, Act.put, List.setIfInBounds_toArray, List.set_cons_zero, List.set_cons_succ]
      refine held_take 2 (some 46) (v := ?_) rfl rfl (by kernel_rfl) (by kernel_rfl) (by kernel_rfl) (fun _ _ _ _ h => h) (by kernel_rfl) ?_ hHeld ?_
      rotate_left 1
      · intro w hSw; (try dsimp only at hSw); go_simp; (try with_reducible rfl)
      try simp only [List.foldl_cons, List.foldl_nil, List.length_cons, List.length_nil, Act.put, List.setIfInBounds_toArray, List.set_cons_zero, List.set_cons_succ]
      refine held_take 3 (some 47) (v := ?_) rfl rfl (by kernel_rfl) (by kernel_rfl) (by kernel_rfl) (fun _ _ _ _ h => h) (by kernel_rfl) ?_ hHeld ?_
      rotate_left 1
      · intro w hSw; (try dsimp only at hSw); go_simp; (try with_reducible rfl)
      try simp only [List.foldl_cons, List.foldl_nil, List.length_cons, List.length_nil, Act.put, List.setIfInBounds_toArray, List.set_cons_zero, List.set_cons_succ]
      refine held_take 4 (some 48) (v := ?_) rfl rfl (by kernel_rfl) (by kernel_rfl) (by kernel_rfl) (fun _ _ _ _ h => h) (by kernel_rfl) ?_ hHeld ?_
      rotate_left 1
      · intro w hSw; (try dsimp only at hSw); go_simp; (try with_reducible rfl)
      try simp only [List.foldl_cons, List.foldl_nil, List.length_cons, List.length_nil, Act.put, List.setIfInBounds_toArray, List.set_cons_zero, List.set_cons_succ]
      refine held_take 5 (some 49) (v := ?_) rfl rfl (by kernel_rfl) (by kernel_rfl) (by kernel_rfl) (fun _ _ _ _ h => h) (by kernel_rfl) ?_ hHeld ?_
      rotate_left 1
      · intro w hSw; (try dsimp only at hSw); go_simp; (try with_reducible rfl)
      try simp only [List.foldl_cons, List.foldl_nil, List.length_cons, List.length_nil, Act.put, List.setIfInBounds_toArray, List.set_cons_zero, List.set_cons_succ]
      refine held_take 6 (some 50) (v := ?_) rfl rfl (by kernel_rfl) (by kernel_rfl) (by kernel_rfl) (fun _ _ _ _ h => h) (by kernel_rfl) ?_ hHeld ?_
      rotate_left 1
      · intro w hSw; (try dsimp only at hSw); go_simp; (try with_reducible rfl)
      try simp only [List.foldl_cons, List.foldl_nil, List.length_cons, List.length_nil, Act.put, List.setIfInBounds_toArray, List.set_cons_zero, List.set_cons_succ]
      refine held_take 7 (some 51) (v := ?_) rfl rfl (by kernel_rfl) (by kernel_rfl) (by kernel_rfl) (fun _ _ _ _ h => h) (by kernel_rfl) ?_ hHeld ?_
      rotate_left 1
      · intro w hSw; (try dsimp only at hSw); go_simp; (try with_reducible rfl)
      try simp only [List.foldl_cons, List.foldl_nil, List.length_cons, List.length_nil, Act.put, List.setIfInBounds_toArray, List.set_cons_zero, List.set_cons_succ]
      refine held_take 8 (some 52) (v := ?_) rfl rfl (by kernel_rfl) (by kernel_rfl) (by kernel_rfl) (fun _ _ _ _ h => h) (by kernel_rfl) ?_ hHeld ?_
      rotate_left 1
      · intro w hSw; (try dsimp only at hSw); go_simp; (try with_reducible rfl)
      try simp only [List.foldl_cons, List.foldl_nil, List.length_cons, List.length_nil, Act.put, List.setIfInBounds_toArray, List.set_cons_zero, List.set_cons_succ]
      refine held_take 9 (some 53) (v := ?_) rfl rfl (by kernel_rfl) (by kernel_rfl) (by kernel_rfl) (fun _ _ _ _ h => h) (by kernel_rfl) ?_ hHeld ?_
      rotate_left 1
      · intro w hSw; (try dsimp only at hSw); go_simp; (try with_reducible rfl)
      try simp only [List.foldl_cons, List.foldl_nil, List.length_cons, List.length_nil, Act.put, List.setIfInBounds_toArray, List.set_cons_zero, List.set_cons_succ]
      refine held_take 10 (some 54) (v := ?_) rfl rfl (by kernel_rfl) (by kernel_rfl) (by kernel_rfl) (fun _ _ _ _ h => h) (by kernel_rfl) ?_ hHeld ?_
      rotate_left 1
      · intro w hSw; (try dsimp only at hSw); go_simp; (try with_reducible rfl)
      try simp only [List.foldl_cons, List.foldl_nil, List.length_cons, List.length_nil, Act.put, List.setIfInBounds_toArray, List.set_cons_zero, List.set_cons_succ]
      refine held_take 11 (some 55) (v := ?_) rfl rfl (by kernel_rfl) (by kernel_rfl) (by kernel_rfl) (fun _ _ _ _ h => h) (by kernel_rfl) ?_ hHeld ?_
      rotate_left 1
      · intro w hSw; (try dsimp only at hSw); go_simp; (try with_reducible rfl)
      try simp only [List.foldl_cons, List.foldl_nil, List.length_cons, List.length_nil, Act.put, List.setIfInBounds_toArray, List.set_cons_zero, List.set_cons_succ]
      refine held_take 12 (some 56) (v := ?_) rfl rfl (by kernel_rfl) (by kernel_rfl) (by kernel_rfl) (fun _ _ _ _ h => h) (by kernel_rfl) ?_ hHeld ?_
      rotate_left 1
      · intro w hSw; (try dsimp only at hSw); go_simp; (try with_reducible rfl)
      try simp only [List.foldl_cons, List.foldl_nil, List.length_cons, List.length_nil, Act.put, List.setIfInBounds_toArray, List.set_cons_zero, List.set_cons_succ]
      refine held_take 13 (some 57) (v := ?_) rfl rfl (by kernel_rfl) (by kernel_rfl) (by kernel_rfl) (fun _ _ _ _ h => h) (by kernel_rfl) ?_ hHeld ?_
      rotate_left 1
      · intro w hSw; (try dsimp only at hSw); go_simp; (try with_reducible rfl)
      try simp only [List.foldl_cons, List.foldl_nil, List.length_cons, List.length_nil, Act.put, List.setIfInBounds_toArray, List.set_cons_zero, List.set_cons_succ]
      refine held_take 14 (some 58) (v := ?_) rfl rfl (by kernel_rfl) (by kernel_rfl) (by kernel_rfl) (fun _ _ _ _ h => h) (by kernel_rfl) ?_ hHeld ?_
      rotate_left 1
      · intro w hSw; (try dsimp only at hSw); go_simp; (try with_reducible rfl)
      try simp only [List.foldl_cons, List.foldl_nil, List.length_cons, List.length_nil, Act.put, List.setIfInBounds_toArray, List.set_cons_zero, List.set_cons_succ]
      refine held_take 15 (some 59) (v := ?_) rfl rfl (by kernel_rfl) (by kernel_rfl) (by kernel_rfl) (fun _ _ _ _ h => h) (by kernel_rfl) ?_ hHeld ?_
      rotate_left 1
      · intro w hSw; (try dsimp only at hSw); go_simp; (try with_reducible rfl)
      try simp only [List.foldl_cons, List.foldl_nil, List.length_cons, List.length_nil, Act.put, List.setIfInBounds_toArray, List.set_cons_zero, List.set_cons_succ]
      refine held_take 16 (some 60) (v := ?_) rfl rfl (by kernel_rfl) (by kernel_rfl) (by kernel_rfl) (fun _ _ _ _ h => h) (by kernel_rfl) ?_ hHeld ?_
      rotate_left 1
      · intro w hSw; (try dsimp only at hSw); go_simp; (try with_reducible rfl)
      try simp only [List.foldl_cons, List.foldl_nil, List.length_cons, List.length_nil, Act.put, List.setIfInBounds_toArray, List.set_cons_zero, List.set_cons_succ]
      refine held_take 17 (some 61) (v := ?_) rfl rfl (by kernel_rfl) (by kernel_rfl) (by kernel_rfl) (fun _ _ _ _ h => h) (by kernel_rfl) ?_ hHeld ?_
      rotate_left 1
      · intro w hSw; (try dsimp only at hSw); go_simp; (try with_reducible rfl)
      try simp only [List.foldl_cons, List.foldl_nil, List.length_cons, List.length_nil, Act.put, List.setIfInBounds_toArray, List.set_cons_zero, List.set_cons_succ]
      refine held_take 18 (some 62) (v := ?_) rfl rfl (by kernel_rfl) (by kernel_rfl) (by kernel_rfl) (fun _ _ _ _ h => h) (by kernel_rfl) ?_ hHeld ?_
      rotate_left 1
      · intro w hSw; (try dsimp only at hSw); go_simp; (try with_reducible rfl)
      try simp only [List.foldl_cons, List.foldl_nil, List.length_cons, List.length_nil, Act.put, List.setIfInBounds_toArray, List.set_cons_zero, List.set_cons_succ]
      refine held_take 19 (some 63) (v := ?_) rfl rfl (by kernel_rfl) (by kernel_rfl) (by kernel_rfl) (fun _ _ _ _ h => h) (by kernel_rfl) ?_ hHeld ?_
      rotate_left 1
      · intro w hSw; (try dsimp only at hSw); go_simp; (try with_reducible rfl)
      try simp only [List.foldl_cons, List.foldl_nil, List.length_cons, List.length_nil, Act.put, List.setIfInBounds_toArray, List.set_cons_zero, List.set_cons_succ]
      refine held_take 20 (some 64) (v := ?_) rfl rfl (by kernel_rfl) (by kernel_rfl) (by kernel_rfl) (fun _ _ _ _ h => h) (by kernel_rfl) ?_ hHeld ?_
      rotate_left 1
      · intro w hSw; (try dsimp only at hSw); go_simp; (try with_reducible rfl)
      try simp only [List.foldl_cons, List.foldl_nil, List.length_cons, List.length_nil, Act.put, List.setIfInBounds_toArray, List.set_cons_zero, List.set_cons_succ]
      refine held_take 21 (some 65) (v := ?_) rfl rfl (by kernel_rfl) (by kernel_rfl) (by kernel_rfl) (fun _ _ _ _ h => h) (by kernel_rfl) ?_ hHeld ?_
      rotate_left 1
      · intro w hSw; (try dsimp only at hSw); go_simp; (try with_reducible rfl)
      try simp only [List.foldl_cons, List.foldl_nil, List.length_cons, List.length_nil, Act.put, List.setIfInBounds_toArray, List.set_cons_zero, List.set_cons_succ]
      refine held_take 22 (some 66) (v := ?_) rfl rfl (by kernel_rfl) (by kernel_rfl) (by kernel_rfl) (fun _ _ _ _ h => h) (by kernel_rfl) ?_ hHeld ?_
      rotate_left 1
      · intro w hSw; (try dsimp only at hSw); go_simp; (try with_reducible rfl)
      try simp only [List.foldl_cons, List.foldl_nil, List.length_cons, List.length_nil, Act.put, List.setIfInBounds_toArray, List.set_cons_zero, List.set_cons_succ]
      refine held_take 23 (some 67) (v := ?_) rfl rfl (by kernel_rfl) (by kernel_rfl) (by kernel_rfl) (fun _ _ _ _ h => h) (by kernel_rfl) ?_ hHeld ?_
      rotate_left 1
      · intro w hSw; (try dsimp only at hSw); go_simp; (try with_reducible rfl)
      try simp only [List.foldl_cons, List.foldl_nil, List.length_cons, List.length_nil, Act.put, List.setIfInBounds_toArray, List.set_cons_zero, List.set_cons_succ]
      refine wpAnyH_done (by kernel_rfl) ?_ _
      go_wp2
      go_roundw
      case rel => exact ⟨k + 1, by omega, by go_num, hbel.drew⟩
      case measure => first | (simp [intOf]; done) | (simp [intOf]; omega)
    · obtain rfl : k = L.length := by omega
      go_wp2
      go_ret
      exact ⟨rfl, below_step (Nat.le_refl _) hb4 hbel⟩
end Go.Proofs.YtbdadgkjiondgaaDoor.see
