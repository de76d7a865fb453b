/-
  FnStepsRemoved: the law's walk.
-/
import Derived.Test.YtbdadgkjiondgaaDoorSeeWalk
import Derived.Test.YtbdadgkjiondgaaDoorSeePut2
namespace Go.Proofs.YtbdadgkjiondgaaDoor.see
open Go.RowKit Go.Maps Go.WideMaps Go.Sort
set_option linter.unusedSimpArgs false
set_option linter.unusedVariables false

theorem madeV_congr {X Y : Nat → Sp} : ∀ k, (∀ i, i < k → X i = Y i) → madeV X k = madeV Y k
  | 0, _ => rfl
  | k + 1, h => by
    show stepV (madeV X k) (X k) = stepV (madeV Y k) (Y k)
    rw [madeV_congr k (fun i hi => h i (by omega)), h k (by omega)]

def oneQ (x : ByteArray) : Nat → PE := fun _ => ⟨true, x, 0, none, 0, fun _ => ⟨#[]⟩, 0, none, 0, fun _ => 0⟩

theorem glue_view (P : Nat → PE) (len : Nat) (x : ByteArray) : madeV (fun i => spP (glue P len (oneQ x) i)) (len + 1) = drop (madeV (fun i => spP (P i)) len) x.data.toList := by
  show stepV (madeV (fun i => spP (glue P len (oneQ x) i)) len) (spP (glue P len (oneQ x) len)) = _
  rw [madeV_congr (Y := fun i => spP (P i)) len (fun i hi => by simp [glue, hi])]
  have e : glue P len (oneQ x) len = oneQ x 0 := by simp [glue, oneQ]
  rw [e]
  rfl

theorem glue_ok {P : Nat → PE} {len : Nat} {x : ByteArray} (h : ∀ i, i < len → PeOk (P i)) (hx : x.size ≤ 2147483647) : ∀ i, i < len + 1 → PeOk (glue P len (oneQ x) i) := by
  intro i hi
  by_cases hil : i < len
  · have e : glue P len (oneQ x) i = P i := by simp [glue, hil]
    rw [e]
    exact h i hil
  · have e : glue P len (oneQ x) i = oneQ x 0 := by simp [glue, hil, oneQ]
    rw [e]
    exact ⟨rfl, hx, fun j hj => absurd hj (by simp [oneQ]), ⟨by simp [oneQ], fun _ => rfl, fun j hj => absurd hj (by simp [oneQ]), fun a b _ hb => absurd hb (by simp [oneQ])⟩⟩

set_option maxRecDepth 100000 in
set_option maxHeartbeats 3200000 in
theorem walk_rem {T : World → Prop} (H : Tests T) (c : Option Addr) (len cap : Nat) (P : Nat → PE) (x : ByteArray) (w : World) (h : PesIn w c len cap P) (hxm : x.size ≤ maxLen) (hT : T w) :
    Calls Tryd.prog 4 #[.slice c len cap, .string x] w fun e w' => e = .returned (.bool true) ∧ Below w.heap.size w w' := by
  have HH := Lib.hid H
  have HS := Lib.hid h
  have HT := Lib.hid hT
  clear H h hT hxm
  by_cases hxb : (2147483647 : Int) < x.size
  · go_enter Tryd.func4, Tryd.ntmps4
    go_wp2_with (go_at_call 5; refine (fits11_yes c len cap P _ HS.out).mono ?_; rintro e w1 ⟨⟨b, rfl, hb⟩, hb1⟩; have HB := Lib.hid hb; clear hb; cases b)
    all_goals go_ret
    all_goals exact ⟨rfl, hb1⟩
  have hxs : x.size ≤ 2147483647 := by omega
  go_enter Tryd.func4, Tryd.ntmps4
  go_wp2_with (go_at_call 5; refine (fits11_yes c len cap P _ HS.out).mono ?_; rintro e w1 ⟨⟨b, rfl, hb⟩, hb1⟩; have HB := Lib.hid hb; clear hb; cases b)
  · go_ret
    exact ⟨rfl, hb1⟩
  have HS1 := Lib.hid (HS.out.below hb1)
  have HT1 := Lib.hid (HH.out.later _ _ HT.out hb1)
  have HShort := Lib.hid (HB.out (by first | rfl | trivial))
  clear HB
  refine (few_yes HH.out c len cap P _ HS1.out HShort.out HT1.out).mono ?_
  rintro e w2 ⟨⟨b, rfl, hb⟩, hb2'⟩
  have HB := Lib.hid hb
  have hb2 := below_step (Nat.le_refl _) hb1 hb2'
  clear hb
  cases b
  · go_wp2
    go_ret
    exact ⟨rfl, hb2⟩
  obtain ⟨h12, hr⟩ := HB.out (by first | rfl | trivial)
  have HT2 := Lib.hid (HH.out.later _ _ HT1.out hb2')
  have HS2 := Lib.hid (HS1.out.below hb2')
  have HOk : Hid (∀ i, i < len → PeOk (P i)) := Lib.hid (fun i hi => ⟨(hr i hi).1, (HShort.out i hi).1, (HShort.out i hi).2.2, (hr i hi).2⟩)
  obtain ⟨L, hL⟩ : ∃ L, L = madeL (fun i => spP (P i)) len := ⟨_, rfl⟩
  have HLs : Hid (Says L (madeV (fun i => spP (P i)) len)) := Lib.hid (by rw [hL]; exact made_says _ len (fun i hi => (hr i hi).2) len (Nat.le_refl _))
  have hLn : L.length ≤ 144 := by
    rw [hL]
    have := made_le (fun i => spP (P i)) len (fun i hi => (hr i hi).2.few)
    omega
  have HLw : Hid (Says (without L x.data.toList) (madeV (fun i => spP (glue P len (oneQ x) i)) (len + 1))) := Lib.hid (by rw [glue_view]; exact HLs.out.drop _)
  obtain ⟨L2, hL2⟩ : ∃ L2, L2 = without L x.data.toList := ⟨_, rfl⟩
  rw [← hL2] at HLw
  have hL2n : L2.length ≤ 144 := by
    rw [hL2]
    exact Nat.le_trans (wo_le _ _) hLn
  have HL2 := Lib.hid hL2
  clear hr HB hL hL2 hb2'
  go_wp2_with fail
  refine (HH.out.valid x _ hxs HT2.out).mono ?_
  rintro e w3 ⟨rfl, hb3'⟩
  have hb3 := below_step (Nat.le_refl _) hb2 hb3'
  have HS3 := Lib.hid (HS2.out.below hb3')
  cases hv : Lib.validD x.data.toList
  · go_wp2
    go_ret
    exact ⟨rfl, hb3⟩
  clear hb3'
  go_wp2_with fail
  refine (Visible_any c len cap P _ HS3.out (by omega) HOk.out L HLs.out).mono ?_
  rintro e w4 ⟨v2, v3, rfl, hn4, hw4, hb4'⟩
  have HN4 := Lib.hid hn4
  have HW4 := Lib.hid hw4
  have hb4 := below_step (Nat.le_refl _) hb3 hb4'
  have HS4 := Lib.hid (HS3.out.below hb4')
  clear hn4 hw4 hb4'
  have hbq : Below w4.heap.size w4 (w4.alloc (.cells #[.bool true, .string x, .slice none 0 0, .slice none 0 0] 35)) := by go_grown
  have HS5 := Lib.hid (HS4.out.below hbq)
  have HQ5 : Hid (PesIn (w4.alloc (.cells #[.bool true, .string x, .slice none 0 0, .slice none 0 0] 35)) (some ⟨w4.heap.size, 0, none⟩) 1 1 (oneQ x)) := Lib.hid (.inr ⟨_, rfl, Nat.le_refl _, by decide, fun i hi => by
    obtain rfl : i = 0 := by omega
    exact ⟨cell_at rfl rfl, cell_at rfl rfl, cell_at rfl rfl, cell_at rfl rfl, .inl ⟨rfl, rfl, rfl⟩, .inl ⟨rfl, rfl, rfl⟩⟩⟩)
  go_wp2_with fail
  refine (put7_all c len cap P _ x _ HS5.out HQ5.out h12).mono ?_
  rintro e w5 ⟨c5, cap5, rfl, hin5, hb5'⟩
  have HI5 : Hid (PesIn w5 c5 (len + 1) cap5 (glue P len (oneQ x))) := Lib.hid hin5
  have hb45 := below_step (Nat.le_refl _) hbq hb5'
  have hb5 := below_step (Nat.le_refl _) hb4 hb45
  have HN5 := Lib.hid (own_below HN4.out hb45)
  have HW5 := Lib.hid (own_below HW4.out hb45)
  clear hin5 hb5' hbq HS5 HQ5 HN4 HW4
  go_wp2_with fail
  refine (Visible_any c5 (len + 1) cap5 (glue P len (oneQ x)) _ HI5.out (by omega) (glue_ok HOk.out hxs) L2 HLw.out).mono ?_
  rintro e w6 ⟨v8, v9, rfl, hn6, hw6, hb6'⟩
  have HN6 := Lib.hid hn6
  have HW6 := Lib.hid hw6
  have HN5' := Lib.hid (own_below HN5.out hb6')
  have HW5' := Lib.hid (own_below HW5.out hb6')
  have hb6 := below_step (Nat.le_refl _) hb5 hb6'
  clear hn6 hw6 HN5 HW5 HS HS1 HS2 HS3 HS4 HI5 HT HT1 HT2 HShort HOk HLs HLw hb1 hb2 hb3 hb4 hb45 hb5 hb6'
  obtain ⟨a2, c2, rfl⟩ := owns_slice HN5'.out
  obtain ⟨a3, c3, rfl⟩ := owns_slice HW5'.out
  obtain ⟨a8, c8, rfl⟩ := owns_slice HN6.out
  obtain ⟨a9, c9, rfl⟩ := owns_slice HW6.out
  go_wp2_with fail
  go_loopw [11, 12] (fun i' k' wr => ∃ (k q : Nat), k ≤ L.length ∧ k' = .int .i64 k ∧ i' = .int .i64 q ∧ Hid (q = kept L x.data.toList k) ∧ q ≤ k ∧ Below w6.heap.size w6 wr) (fun _ k' _ => L.length - (intOf k').toNat)
  case atStart => exact ⟨0, 0, Nat.zero_le _, rfl, rfl, Lib.hid rfl, Nat.le_refl _, Below.refl _ _⟩
  case round =>
    obtain ⟨k, q, hk, rfl, rfl, HQ, hqk, hbel⟩ := hrel
    by_cases hlt : k < L.length
    · obtain ⟨⟨nm, c⟩, hat⟩ : ∃ a, L[k]? = some a := ⟨_, List.getElem?_eq_getElem hlt⟩
      obtain ⟨gn, cpn, e2, p0⟩ := name_at HN5'.out hat
      obtain ⟨gw, cpw, e3, p1⟩ := way_at HW5'.out hat
      obtain ⟨rfl, -, rfl⟩ := slice_inj e2
      obtain ⟨rfl, -, rfl⟩ := slice_inj e3
      obtain ⟨k1, k2⟩ := kept_step (x := x.data.toList) hat
      rw [← HQ.out] at k1 k2
      obtain ⟨s, hs⟩ : ∃ s : ByteArray, s = ⟨nm.toArray⟩ := ⟨_, rfl⟩
      have hnm : nm = s.data.toList := by rw [hs]
      simp only at p0 p1 k1 k2
      rw [← hs] at p0
      have n1 := cell_later hbel p0
      have n3 := cell_later hbel p1
      have hk0 : (0 : Int) ≤ k := by omega
      have hkn : (k : Int) < L.length := by omega
      by_cases hsx : s = x
      · have hsm := seq_true hsx
        have HK : Hid (q = kept L x.data.toList (k + 1)) := Lib.hid (k1 (by rw [hnm, hsx])).symm
        clear e2 e3 hat p0 p1 k1 k2 hs hnm hsx
        go_wp2_with fail
        go_roundw
        case rel => exact ⟨k + 1, q, by omega, by go_num, rfl, HK, by omega, hbel⟩
        case measure => first | (simp [intOf]; done) | (simp [intOf]; omega)
      · have hsm := seq_false hsx
        obtain ⟨k3, k4⟩ := k2 (by rw [hnm]; exact fun e => hsx (bytes_eq e))
        have HK : Hid (q + 1 = kept L x.data.toList (k + 1)) := Lib.hid k3.symm
        rw [← HL2.out] at k4
        obtain ⟨gl, cpl, e8, p2⟩ := name_at HN6.out k4
        obtain ⟨glw, cplw, e9, p3⟩ := way_at HW6.out k4
        obtain ⟨rfl, -, rfl⟩ := slice_inj e8
        obtain ⟨rfl, -, rfl⟩ := slice_inj e9
        simp only at p2 p3
        rw [← hs] at p2
        have n0 := cell_later hbel p2
        have n2 := cell_later hbel p3
        have hql : q < L2.length := (List.getElem?_eq_some_iff.1 k4).1
        have hq0 : (0 : Int) ≤ q := by omega
        have hqn : (q : Int) < L2.length := by omega
        have hqn2 : ¬ (L2.length : Int) ≤ q := by omega
        have hqn3 : ¬ L2.length ≤ q := by omega
        clear e2 e3 e8 e9 hat p0 p1 p2 p3 k1 k2 k3 k4 hs hnm hsx
        go_wp2_with fail
        refine held_begin (S := fun w' => w'.cell? ⟨gl, q, none⟩ = some (.string s) ∧ w'.cell? ⟨gn, k, none⟩ = some (.string s) ∧ w'.cell? ⟨glw, q, none⟩ = some (.int .i64 c) ∧ w'.cell? ⟨gw, k, none⟩ = some (.int .i64 c)) 28 (by rfl) (by kernel_rfl) ?_ (fun hHeld => ?_)
        · exact ⟨by simpa using n0, by simpa using n1, by simpa using n2, by simpa using n3⟩
        refine held_take 0 (some 79) (v := ?_) rfl rfl (by kernel_rfl) (by kernel_rfl) (by kernel_rfl) (fun _ _ _ _ h => h) (by kernel_rfl) ?_ hHeld ?_
        rotate_left 1
        · intro w hSw; (try dsimp only at hSw); go_simp; (try with_reducible rfl)
        try simp only [List.foldl_cons, List.foldl_nil, List.length_cons, List.length_nil, Act.put, List.setIfInBounds_toArray, List.set_cons_zero, List.set_cons_succ]
        refine held_take 1 (some 80) (v := ?_) rfl rfl (by kernel_rfl) (by kernel_rfl) (by kernel_rfl) (fun _ _ _ _ h => h) (by kernel_rfl) ?_ hHeld ?_
        rotate_left 1
        · intro w hSw; (try dsimp only at hSw); go_simp; (try with_reducible rfl)
        try simp only [List.foldl_cons, List.foldl_nil, List.length_cons, List.length_nil, Act.put, List.setIfInBounds_toArray, List.set_cons_zero, List.set_cons_succ]
        refine held_take 2 (some 81) (v := ?_) rfl rfl (by kernel_rfl) (by kernel_rfl) (by kernel_rfl) (fun _ _ _ _ h => h) (by kernel_rfl) ?_ hHeld ?_
        rotate_left 1
        · intro w hSw; (try dsimp only at hSw); go_simp; (try with_reducible rfl)
        try simp only [List.foldl_cons, List.foldl_nil, List.length_cons, List.length_nil, Act.put, List.setIfInBounds_toArray, List.set_cons_zero, List.set_cons_succ]
        refine held_take 3 (some 82) (v := ?_) rfl rfl (by kernel_rfl) (by kernel_rfl) (by kernel_rfl) (fun _ _ _ _ h => h) (by kernel_rfl) ?_ hHeld ?_
        rotate_left 1
        · intro w hSw; (try dsimp only at hSw); go_simp; (try with_reducible rfl)
        try simp only [List.foldl_cons, List.foldl_nil, List.length_cons, List.length_nil, Act.put, List.setIfInBounds_toArray, List.set_cons_zero, List.set_cons_succ]
        refine held_take 4 (some 83) (v := ?_) rfl rfl (by kernel_rfl) (by kernel_rfl) (by kernel_rfl) (fun _ _ _ _ h => h) (by kernel_rfl) ?_ hHeld ?_
        rotate_left 1
        · intro w hSw; (try dsimp only at hSw); go_simp; (try with_reducible rfl)
        try simp only [List.foldl_cons, List.foldl_nil, List.length_cons, List.length_nil, Act.put, List.setIfInBounds_toArray, List.set_cons_zero, List.set_cons_succ]
        refine held_take 5 (some 84) (v := ?_) rfl rfl (by kernel_rfl) (by kernel_rfl) (by kernel_rfl) (fun _ _ _ _ h => h) (by kernel_rfl) ?_ hHeld ?_
        rotate_left 1
        · intro w hSw; (try dsimp only at hSw); go_simp; (try with_reducible rfl)
        try simp only [List.foldl_cons, List.foldl_nil, List.length_cons, List.length_nil, Act.put, List.setIfInBounds_toArray, List.set_cons_zero, List.set_cons_succ]
        refine held_take 6 (some 85) (v := ?_) rfl rfl (by kernel_rfl) (by kernel_rfl) (by kernel_rfl) (fun _ _ _ _ h => h) (by kernel_rfl) ?_ hHeld ?_
        rotate_left 1
        · intro w hSw; (try dsimp only at hSw); go_simp; (try with_reducible rfl)
        try simp only [List.foldl_cons, List.foldl_nil, List.length_cons, List.length_nil, Act.put, List.setIfInBounds_toArray, List.set_cons_zero, List.set_cons_succ]
        refine held_take 7 (some 86) (v := ?_) rfl rfl (by kernel_rfl) (by kernel_rfl) (by kernel_rfl) (fun _ _ _ _ h => h) (by kernel_rfl) ?_ hHeld ?_
        rotate_left 1
        · intro w hSw; (try dsimp only at hSw); go_simp; (try with_reducible rfl)
        try simp only [List.foldl_cons, List.foldl_nil, List.length_cons, List.length_nil, Act.put, List.setIfInBounds_toArray, List.set_cons_zero, List.set_cons_succ]
        refine held_take 8 (some 87) (v := ?_) rfl rfl (by kernel_rfl) (by kernel_rfl) (by kernel_rfl) (fun _ _ _ _ h => h) (by kernel_rfl) ?_ hHeld ?_
        rotate_left 1
        · intro w hSw; (try dsimp only at hSw); go_simp; (try with_reducible rfl)
        try simp only [List.foldl_cons, List.foldl_nil, List.length_cons, List.length_nil, Act.put, List.setIfInBounds_toArray, List.set_cons_zero, List.set_cons_succ]
        refine held_take 9 (some 88) (v := ?_) rfl rfl (by kernel_rfl) (by kernel_rfl) (by kernel_rfl) (fun _ _ _ _ h => h) (by kernel_rfl) ?_ hHeld ?_
        rotate_left 1
        · intro w hSw; (try dsimp only at hSw); go_simp; (try with_reducible rfl)
        try simp only [List.foldl_cons, List.foldl_nil, List.length_cons, List.length_nil, Act.put, List.setIfInBounds_toArray, List.set_cons_zero, List.set_cons_succ]
        refine held_take 10 (some 89) (v := ?_) rfl rfl (by kernel_rfl) (by kernel_rfl) (by kernel_rfl) (fun _ _ _ _ h => h) (by kernel_rfl) ?_ hHeld ?_
        rotate_left 1
        · intro w hSw; (try dsimp only at hSw); go_simp; (try with_reducible rfl)
        try simp only [List.foldl_cons, List.foldl_nil, List.length_cons, List.length_nil, Act.put, List.setIfInBounds_toArray, List.set_cons_zero, List.set_cons_succ]
        refine held_take 11 (some 90) (v := ?_) rfl rfl (by kernel_rfl) (by kernel_rfl) (by kernel_rfl) (fun _ _ _ _ h => h) (by kernel_rfl) ?_ hHeld ?_
        rotate_left 1
        · intro w hSw; (try dsimp only at hSw); go_simp; (try with_reducible rfl)
        try simp only [List.foldl_cons, List.foldl_nil, List.length_cons, List.length_nil, Act.put, List.setIfInBounds_toArray, List.set_cons_zero, List.set_cons_succ]
        refine held_take 12 (some 91) (v := ?_) rfl rfl (by kernel_rfl) (by kernel_rfl) (by kernel_rfl) (fun _ _ _ _ h => h) (by kernel_rfl) ?_ hHeld ?_
        rotate_left 1
        · intro w hSw; (try dsimp only at hSw); go_simp; (try with_reducible rfl)
        try simp only [List.foldl_cons, List.foldl_nil, List.length_cons, List.length_nil, Act.put, List.setIfInBounds_toArray, List.set_cons_zero, List.set_cons_succ]
        refine held_take 13 (some 92) (v := ?_) rfl rfl (by kernel_rfl) (by kernel_rfl) (by kernel_rfl) (fun _ _ _ _ h => h) (by kernel_rfl) ?_ hHeld ?_
        rotate_left 1
        · intro w hSw; (try dsimp only at hSw); go_simp; (try with_reducible rfl)
        try simp only [List.foldl_cons, List.foldl_nil, List.length_cons, List.length_nil, Act.put, List.setIfInBounds_toArray, List.set_cons_zero, List.set_cons_succ]
        refine held_take 14 (some 93) (v := ?_) rfl rfl (by kernel_rfl) (by kernel_rfl) (by kernel_rfl) (fun _ _ _ _ h => h) (by kernel_rfl) ?_ hHeld ?_
        rotate_left 1
        · intro w hSw; (try dsimp only at hSw); go_simp; (try with_reducible rfl)
        try simp only [List.foldl_cons, List.foldl_nil, List.length_cons, List.length_nil, Act.put, List.setIfInBounds_toArray, List.set_cons_zero, List.set_cons_succ]
        refine held_take 15 (some 94) (v := ?_) rfl rfl (by kernel_rfl) (by kernel_rfl) (by kernel_rfl) (fun _ _ _ _ h => h) (by kernel_rfl) ?_ hHeld ?_
        rotate_left 1
        · intro w hSw; (try dsimp only at hSw); go_simp; (try with_reducible rfl)
        try simp only [List.foldl_cons, List.foldl_nil, List.length_cons, List.length_nil, Act.put, List.setIfInBounds_toArray, List.set_cons_zero, List.set_cons_succ]
        refine held_take 16 (some 95) (v := ?_) rfl rfl (by kernel_rfl) (by kernel_rfl) (by kernel_rfl) (fun _ _ _ _ h => h) (by kernel_rfl) ?_ hHeld ?_
        rotate_left 1
        · intro w hSw; (try dsimp only at hSw); go_simp; (try with_reducible rfl)
        try simp only [List.foldl_cons, List.foldl_nil, List.length_cons, List.length_nil, Act.put, List.setIfInBounds_toArray, List.set_cons_zero, List.set_cons_succ]
        refine held_take 17 (some 96) (v := ?_) rfl rfl (by kernel_rfl) (by kernel_rfl) (by kernel_rfl) (fun _ _ _ _ h => h) (by kernel_rfl) ?_ hHeld ?_
        rotate_left 1
        · intro w hSw; (try dsimp only at hSw); go_simp; (try with_reducible rfl)
        try simp only [List.foldl_cons, List.foldl_nil, List.length_cons, List.length_nil, Act.put, List.setIfInBounds_toArray, List.set_cons_zero, List.set_cons_succ]
        refine held_take 18 (some 97) (v := ?_) rfl rfl (by kernel_rfl) (by kernel_rfl) (by kernel_rfl) (fun _ _ _ _ h => h) (by kernel_rfl) ?_ hHeld ?_
        rotate_left 1
        · intro w hSw; (try dsimp only at hSw); go_simp; (try with_reducible rfl)
        try simp only [List.foldl_cons, List.foldl_nil, List.length_cons, List.length_nil, Act.put, List.setIfInBounds_toArray, List.set_cons_zero, List.set_cons_succ]
        refine held_take 19 (some 98) (v := ?_) rfl rfl (by kernel_rfl) (by kernel_rfl) (by kernel_rfl) (fun _ _ _ _ h => h) (by kernel_rfl) ?_ hHeld ?_
        rotate_left 1
        · intro w hSw; (try dsimp only at hSw); go_simp; (try with_reducible rfl)
        try simp only [List.foldl_cons, List.foldl_nil, List.length_cons, List.length_nil, Act.put, List.setIfInBounds_toArray, List.set_cons_zero, List.set_cons_succ]
        refine held_take 20 (some 99) (v := ?_) rfl rfl (by kernel_rfl) (by kernel_rfl) (by kernel_rfl) (fun _ _ _ _ h => h) (by kernel_rfl) ?_ hHeld ?_
        rotate_left 1
        · intro w hSw; (try dsimp only at hSw); go_simp; (try with_reducible rfl)
        try simp only [List.foldl_cons, List.foldl_nil, List.length_cons, List.length_nil, Act.put, List.setIfInBounds_toArray, List.set_cons_zero, List.set_cons_succ]
        refine held_take 21 (some 100) (v := ?_) rfl rfl (by kernel_rfl) (by kernel_rfl) (by kernel_rfl) (fun _ _ _ _ h => h) (by kernel_rfl) ?_ hHeld ?_
        rotate_left 1
        · intro w hSw; (try dsimp only at hSw); go_simp; (try with_reducible rfl)
        try simp only [List.foldl_cons, List.foldl_nil, List.length_cons, List.length_nil, Act.put, List.setIfInBounds_toArray, List.set_cons_zero, List.set_cons_succ]
        refine held_take 22 (some 101) (v := ?_) rfl rfl (by kernel_rfl) (by kernel_rfl) (by kernel_rfl) (fun _ _ _ _ h => h) (by kernel_rfl) ?_ hHeld ?_
        rotate_left 1
        · intro w hSw; (try dsimp only at hSw); go_simp; (try with_reducible rfl)
        try simp only [List.foldl_cons, List.foldl_nil, List.length_cons, List.length_nil, Act.put, List.setIfInBounds_toArray, List.set_cons_zero, List.set_cons_succ]
        refine held_take 23 (some 102) (v := ?_) rfl rfl (by kernel_rfl) (by kernel_rfl) (by kernel_rfl) (fun _ _ _ _ h => h) (by kernel_rfl) ?_ hHeld ?_
        rotate_left 1
        · intro w hSw; (try dsimp only at hSw); go_simp; (try with_reducible rfl)
        try simp only [List.foldl_cons, List.foldl_nil, List.length_cons, List.length_nil, Act.put, List.setIfInBounds_toArray, List.set_cons_zero, List.set_cons_succ]
        refine held_take 24 (some 103) (v := ?_) rfl rfl (by kernel_rfl) (by kernel_rfl) (by kernel_rfl) (fun _ _ _ _ h => h) (by kernel_rfl) ?_ hHeld ?_
        rotate_left 1
        · intro w hSw; (try dsimp only at hSw); go_simp; (try with_reducible rfl)
        try simp only [List.foldl_cons, List.foldl_nil, List.length_cons, List.length_nil, Act.put, List.setIfInBounds_toArray, List.set_cons_zero, List.set_cons_succ]
        refine held_take 25 (some 104) (v := ?_) rfl rfl (by kernel_rfl) (by kernel_rfl) (by kernel_rfl) (fun _ _ _ _ h => h) (by kernel_rfl) ?_ hHeld ?_
        rotate_left 1
        · intro w hSw; (try dsimp only at hSw); go_simp; (try with_reducible rfl)
        try simp only [List.foldl_cons, List.foldl_nil, List.length_cons, List.length_nil, Act.put, List.setIfInBounds_toArray, List.set_cons_zero, List.set_cons_succ]
        refine held_take 26 (some 105) (v := ?_) rfl rfl (by kernel_rfl) (by kernel_rfl) (by kernel_rfl) (fun _ _ _ _ h => h) (by kernel_rfl) ?_ hHeld ?_
        rotate_left 1
        · intro w hSw; (try dsimp only at hSw); go_simp; (try with_reducible rfl)
        try simp only [List.foldl_cons, List.foldl_nil, List.length_cons, List.length_nil, Act.put, List.setIfInBounds_toArray, List.set_cons_zero, List.set_cons_succ]
        refine held_take 27 (some 106) (v := ?_) rfl rfl (by kernel_rfl) (by kernel_rfl) (by kernel_rfl) (fun _ _ _ _ h => h) (by kernel_rfl) ?_ hHeld ?_
        rotate_left 1
        · intro w hSw; (try dsimp only at hSw); go_simp; (try with_reducible rfl)
        try simp only [List.foldl_cons, List.foldl_nil, List.length_cons, List.length_nil, Act.put, List.setIfInBounds_toArray, List.set_cons_zero, List.set_cons_succ]
        refine wpAnyH_done (by kernel_rfl) ?_ _
        go_wp2
        go_roundw
        case rel => exact ⟨k + 1, q + 1, by omega, by go_num, by go_num, HK, by omega, hbel.drew⟩
        case measure => first | (simp [intOf]; done) | (simp [intOf]; omega)
    · obtain rfl : k = L.length := by omega
      have hq := HQ.out
      rw [kept_all, ← HL2.out] at hq
      subst hq
      go_wp2
      go_ret
      exact ⟨by first | rfl | simp, below_step (Nat.le_refl _) hb6 hbel⟩
end Go.Proofs.YtbdadgkjiondgaaDoor.see
