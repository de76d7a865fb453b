/-
  FnSeen, FnStepsRemoved: the law's own tests of steps.
-/
import Derived.Test.YtbdadgkjiondgaaDoorSeeVis
import Derived.Test.YtbdadgkjiondgaaDoorHeld
import Derived.Test.YtbdadgkjiondgaaDoorSeeValid
namespace Go.Proofs.YtbdadgkjiondgaaDoor.see
open Go.RowKit Go.Maps Go.WideMaps
set_option linter.unusedSimpArgs false
set_option linter.unusedVariables false

/-- A Bool is handed back; if it is true this holds. -/
def Yes (p : Prop) (e : Ending) : Prop := ∃ r, e = .returned (.bool r) ∧ (r = true → p)

/-- What the library's test of a text tells, in worlds that hold its tables. -/
structure Tests (T : World → Prop) : Prop where
  valid : ∀ (s : ByteArray) (w : World), s.size ≤ 2147483647 → T w → Calls Tryd.prog 9 #[.string s] w fun e w' => e = .returned (.bool (Lib.validD s.data.toList)) ∧ Below w.heap.size w w'
  later : ∀ (w w' : World), T w → Below w.heap.size w w' → T w'

/-- Names that are short enough. -/
def StrsOk (len : Nat) (S : Nat → ByteArray) : Prop := (len : Int) ≤ 2147483647 ∧ ∀ i, i < len → (S i).size ≤ 2147483647

theorem fits5_yes (c : Option Addr) (len cap : Nat) (S : Nat → ByteArray) (w : World) (h : StrsIn w c len cap S) :
    Calls Tryd.prog 20 #[.slice c len cap] w fun e w' => Yes (StrsOk len S) e ∧ w' = w := by
  rcases h with ⟨rfl, rfl, rfl⟩ | ⟨a, rfl, h1, h2, h3⟩
  · go_enter Tryd.func20, Tryd.ntmps20
    go_wp2
    go_rounds 1
    go_ret
    exact ⟨⟨true, rfl, fun _ => ⟨by omega, fun i hi => absurd hi (by omega)⟩⟩, rfl⟩
  · by_cases hbig : (2147483647 : Int) < len
    · go_enter Tryd.func20, Tryd.ntmps20
      go_wp2
      go_ret
      exact ⟨⟨false, rfl, fun h => by cases h⟩, rfl⟩
    · have HC : Hid _ := Lib.hid h3
      clear h3
      go_enter Tryd.func20, Tryd.ntmps20
      go_wp2
      go_loop [10] (fun i => ∃ k : Nat, k ≤ len ∧ i = .int .i64 k ∧ Hid (∀ j, j < k → (S j).size ≤ 2147483647)) (fun i => len - (intOf i).toNat)
      case atStart => exact ⟨0, Nat.zero_le _, rfl, Lib.hid (fun j hj => absurd hj (by omega))⟩
      case round =>
        obtain ⟨k, hk, rfl, HJ⟩ := hrel
        by_cases hlt : k < len
        · obtain ⟨hb, hcell⟩ := HC.out k hlt
          by_cases hs : (2147483647 : Int) < (S k).size
          · go_wp2
            go_ret
            exact ⟨⟨false, rfl, fun h => by cases h⟩, rfl⟩
          · have HJ2 : Hid (∀ j, j < k + 1 → (S j).size ≤ 2147483647) := Lib.hid (fun j hj => by
              by_cases hjk : j < k
              · exact HJ.out j hjk
              · obtain rfl : j = k := by omega
                omega)
            go_wp2
            go_round
            case rel => exact ⟨k + 1, by omega, by go_num, HJ2⟩
            case measure => simp [intOf]; omega
        · obtain rfl : k = len := by omega
          go_wp2
          go_ret
          exact ⟨⟨true, rfl, fun _ => ⟨by omega, HJ.out⟩⟩, rfl⟩

/-- A step whose texts are short enough. -/
def Short (e : PE) : Prop := e.rem.size ≤ 2147483647 ∧ StrsOk e.n e.S

set_option maxRecDepth 100000 in
theorem fits12_yes (e : PE) (w : World) (h : StrsIn w e.na e.n e.nc e.S) :
    Calls Tryd.prog 11 #[.agg #[.bool e.is, .string e.rem, .slice e.na e.n e.nc, .slice e.ha e.m e.hc]] w fun r w' => Yes (Short e) r ∧ Below w.heap.size w w' := by
  have hb0 : Below w.heap.size w (w.alloc (.cells #[.bool e.is, .string e.rem, .slice e.na e.n e.nc, .slice e.ha e.m e.hc] 35)) := by go_grown
  have HS2 := Lib.hid (h.below hb0)
  clear h
  by_cases hs : (2147483647 : Int) < e.rem.size
  · go_enter Tryd.func11, Tryd.ntmps11
    go_wp2
    go_ret
    exact ⟨⟨false, rfl, fun h => by cases h⟩, by go_grown⟩
  · by_cases hm : (2147483647 : Int) < e.m
    all_goals
      go_enter Tryd.func11, Tryd.ntmps11
      go_wp2_with (go_at_call 20; refine (fits5_yes _ _ _ _ _ HS2.out).mono ?_; rintro e w1 ⟨⟨b, rfl, hb⟩, rfl⟩; have HB := Lib.hid hb; clear hb; cases b)
      all_goals go_ret
      all_goals first
        | exact ⟨⟨false, rfl, fun h => by cases h⟩, by go_grown⟩
        | exact ⟨⟨true, rfl, fun _ => ⟨by omega, HB.out (by first | rfl | trivial)⟩⟩, by go_grown⟩

set_option maxRecDepth 100000 in
theorem fits11_yes (c : Option Addr) (len cap : Nat) (P : Nat → PE) (w : World) (h : PesIn w c len cap P) :
    Calls Tryd.prog 5 #[.slice c len cap] w fun e w' => Yes (∀ i, i < len → Short (P i)) e ∧ Below w.heap.size w w' := by
  have HS := Lib.hid h
  clear h
  by_cases hbig : (2147483647 : Int) < len
  · go_enter Tryd.func5, Tryd.ntmps5
    go_wp2
    go_ret
    exact ⟨⟨false, rfl, fun h => by cases h⟩, by go_grown⟩
  · go_enter Tryd.func5, Tryd.ntmps5
    go_wp2
    go_loopw [10] (fun i wr => ∃ k : Nat, k ≤ len ∧ i = .int .i64 k ∧ Below w.heap.size w wr ∧ Hid (∀ j, j < k → Short (P j))) (fun i _ => len - (intOf i).toNat)
    case atStart => exact ⟨0, Nat.zero_le _, rfl, by go_grown, Lib.hid (fun j hj => absurd hj (by omega))⟩
    case round =>
      obtain ⟨k, hk, rfl, hbel, HJ⟩ := hrel
      by_cases hlt : k < len
      · obtain ⟨a, rfl, hc⟩ := HS.out.at hlt
        obtain ⟨q0, q1, q2, q3, q4, -⟩ := hc.below hbel
        have HQ := Lib.hid q4
        clear q4 hc
        have hb1 : Below wr.heap.size wr (wr.alloc (.cells #[.bool (P k).is, .string (P k).rem, .slice (P k).na (P k).n (P k).nc, .slice (P k).ha (P k).m (P k).hc] 35)) := by go_grown
        have HQ2 := Lib.hid (HQ.out.below hb1)
        go_wp2_with (go_at_call 11; refine (fits12_yes (P k) _ HQ2.out).mono ?_; rintro e w1 ⟨⟨b, rfl, hb⟩, hb2⟩; have HB := Lib.hid hb; clear hb; cases b)
        · go_ret
          exact ⟨⟨false, rfl, fun h => by cases h⟩, below_step (Nat.le_refl _) hbel (hb1.trans (hb2.mono hb1.size))⟩
        · have HJ2 : Hid (∀ j, j < k + 1 → Short (P j)) := Lib.hid (fun j hj => by
            by_cases hjk : j < k
            · exact HJ.out j hjk
            · obtain rfl : j = k := by omega
              exact HB.out (by first | rfl | trivial))
          go_roundw
          case rel => exact ⟨k + 1, by omega, by go_num, below_step (Nat.le_refl _) hbel (hb1.trans (hb2.mono hb1.size)), HJ2⟩
          case measure => first | (simp [intOf]; done) | (simp [intOf]; omega)
      · obtain rfl : k = len := by omega
        go_wp2
        go_ret
        exact ⟨⟨true, rfl, fun _ => HJ.out⟩, hbel⟩

theorem bytes_nil {b : ByteArray} (h : b.toList.isEmpty = true) : b = ⟨#[]⟩ := by
  have h2 : b.toList = [] := by simpa using h
  rw [ByteArray.toList_eq] at h2
  exact ByteArray.ext (Array.toList_inj.1 (by simpa using h2))

/-- A step that is one. -/
def RightP (e : PE) : Prop := e.m = e.n ∧ SpOk (spP e)

set_option maxRecDepth 100000 in
set_option maxHeartbeats 3200000 in
theorem steps_yes {T : World → Prop} (H : Tests T) (c : Option Addr) (len cap : Nat) (P : Nat → PE) (w : World) (h : PesIn w c len cap P) (hlen : len ≤ 12) (hn : ∀ i, i < len → (P i).n ≤ 12) (hs : ∀ i, i < len → Short (P i)) (hT : T w) :
    Calls Tryd.prog 12 #[.slice c len cap] w fun e w' => Yes (∀ i, i < len → RightP (P i)) e ∧ Below w.heap.size w w' := by
  have HH := Lib.hid H
  have HS := Lib.hid h
  have HT := Lib.hid hT
  have HN := Lib.hid hn
  have HSh := Lib.hid hs
  clear H h hT hn hs
  go_enter Tryd.func12, Tryd.ntmps12
  go_wp2
  go_loopw [3] (fun i wr => ∃ k : Nat, k ≤ len ∧ i = .int .i64 k ∧ T wr ∧ Below w.heap.size w wr ∧ Hid (∀ j, j < k → RightP (P j))) (fun i _ => len - (intOf i).toNat)
  case atStart => exact ⟨0, Nat.zero_le _, rfl, HT.out, by go_grown, Lib.hid (fun j hj => absurd hj (by omega))⟩
  case round =>
    obtain ⟨k, hk, rfl, hT1, hbel, HJ⟩ := hrel
    have HT1 := Lib.hid hT1
    clear hT1
    rename World => W1
    by_cases hlt : k < len
    · obtain ⟨a, rfl, hc⟩ := HS.out.at hlt
      obtain ⟨q0, q1, q2, q3, q4, q5⟩ := hc.below hbel
      have HQ4 := Lib.hid q4
      have HQ5 := Lib.hid q5
      obtain ⟨hrem, -, hss⟩ := HSh.out k hlt
      have HSS := Lib.hid hss
      have hnk := HN.out k hlt
      clear q4 q5 hc hss
      obtain ⟨ee, hee⟩ : ∃ ee, ee = P k := ⟨_, rfl⟩
      rw [← hee] at q0 q1 q2 q3 HQ4 HQ5 HSS hrem hnk
      have HE := Lib.hid hee
      clear hee
      obtain ⟨is, rem, n, na, nc, S, m, ha, hc, Hh⟩ := ee
      simp only at q0 q1 q2 q3 hrem hnk
      have HTd : Hid (T W1.drew) := Lib.hid (HH.out.later _ _ HT1.out ((Below.refl _ _).drew))
      have hbd : Below w.heap.size w W1.drew := hbel.drew
      by_cases hnm : n = m
      · subst hnm
        cases is
        · by_cases hre : rem = ⟨#[]⟩
          · subst hre
            cases HV : Lib.validD (⟨#[]⟩ : ByteArray).data.toList
            · go_wp2_with fail
              refine held_begin (S := fun w' => w'.cell? (a.add (k * 4)) = some (.bool false) ∧ w'.cell? ⟨(a.add (k * 4)).block, (a.add (k * 4)).off + 1, none⟩ = some (.string ⟨#[]⟩) ∧ w'.cell? ⟨(a.add (k * 4)).block, (a.add (k * 4)).off + 2, none⟩ = some (.slice na n nc) ∧ w'.cell? ⟨(a.add (k * 4)).block, (a.add (k * 4)).off + 3, none⟩ = some (.slice ha n hc)) 54 (by rfl) (by kernel_rfl) ?_ (fun hHeld => ?_)
              · exact ⟨by simpa using q0, by simpa using q1, by simpa using q2, by simpa using q3⟩
              refine held_take 0 (some 13) (v := ?_) rfl rfl (by kernel_rfl) (by kernel_rfl) (by kernel_rfl) (fun _ _ _ _ h => h) (by kernel_rfl) ?_ hHeld ?_
              rotate_left 1
              · intro w hSw; (try dsimp only at hSw); go_simp; (try with_reducible rfl)
              try simp only [List.foldl_cons, List.foldl_nil, List.length_cons, List.length_nil, Act.put, List.setIfInBounds_toArray, List.set_cons_zero, List.set_cons_succ]
              refine held_take 1 (some 14) (v := ?_) rfl rfl (by kernel_rfl) (by kernel_rfl) (by kernel_rfl) (fun _ _ _ _ h => h) (by kernel_rfl) ?_ hHeld ?_
              rotate_left 1
              · intro w hSw; (try dsimp only at hSw); go_simp; (try with_reducible rfl)
              try simp only [List.foldl_cons, List.foldl_nil, List.length_cons, List.length_nil, Act.put, List.setIfInBounds_toArray, List.set_cons_zero, List.set_cons_succ]
              refine held_take 2 (some 15) (v := ?_) rfl rfl (by kernel_rfl) (by kernel_rfl) (by kernel_rfl) (fun _ _ _ _ h => h) (by kernel_rfl) ?_ hHeld ?_
              rotate_left 1
              · intro w hSw; (try dsimp only at hSw); go_simp; (try with_reducible rfl)
              try simp only [List.foldl_cons, List.foldl_nil, List.length_cons, List.length_nil, Act.put, List.setIfInBounds_toArray, List.set_cons_zero, List.set_cons_succ]
              refine held_take 3 (some 16) (v := ?_) rfl rfl (by kernel_rfl) (by kernel_rfl) (by kernel_rfl) (fun _ _ _ _ h => h) (by kernel_rfl) ?_ hHeld ?_
              rotate_left 1
              · intro w hSw; (try dsimp only at hSw); go_simp; (try with_reducible rfl)
              try simp only [List.foldl_cons, List.foldl_nil, List.length_cons, List.length_nil, Act.put, List.setIfInBounds_toArray, List.set_cons_zero, List.set_cons_succ]
              refine held_take 4 (some 17) (v := ?_) rfl rfl (by kernel_rfl) (by kernel_rfl) (by kernel_rfl) (fun _ _ _ _ h => h) (by kernel_rfl) ?_ hHeld ?_
              rotate_left 1
              · intro w hSw; (try dsimp only at hSw); go_simp; (try with_reducible rfl)
              try simp only [List.foldl_cons, List.foldl_nil, List.length_cons, List.length_nil, Act.put, List.setIfInBounds_toArray, List.set_cons_zero, List.set_cons_succ]
              refine held_take 5 (some 18) (v := ?_) rfl rfl (by kernel_rfl) (by kernel_rfl) (by kernel_rfl) (fun _ _ _ _ h => h) (by kernel_rfl) ?_ hHeld ?_
              rotate_left 1
              · intro w hSw; (try dsimp only at hSw); go_simp; (try with_reducible rfl)
              try simp only [List.foldl_cons, List.foldl_nil, List.length_cons, List.length_nil, Act.put, List.setIfInBounds_toArray, List.set_cons_zero, List.set_cons_succ]
              refine held_take 6 (some 19) (v := ?_) rfl rfl (by kernel_rfl) (by kernel_rfl) (by kernel_rfl) (fun _ _ _ _ h => h) (by kernel_rfl) ?_ hHeld ?_
              rotate_left 1
              · intro w hSw; (try dsimp only at hSw); go_simp; (try with_reducible rfl)
              try simp only [List.foldl_cons, List.foldl_nil, List.length_cons, List.length_nil, Act.put, List.setIfInBounds_toArray, List.set_cons_zero, List.set_cons_succ]
              refine held_take 7 (some 20) (v := ?_) rfl rfl (by kernel_rfl) (by kernel_rfl) (by kernel_rfl) (fun _ _ _ _ h => h) (by kernel_rfl) ?_ hHeld ?_
              rotate_left 1
              · intro w hSw; (try dsimp only at hSw); go_simp; (try with_reducible rfl)
              try simp only [List.foldl_cons, List.foldl_nil, List.length_cons, List.length_nil, Act.put, List.setIfInBounds_toArray, List.set_cons_zero, List.set_cons_succ]
              refine held_take 8 (some 21) (v := ?_) rfl rfl (by kernel_rfl) (by kernel_rfl) (by kernel_rfl) (fun _ _ _ _ h => h) (by kernel_rfl) ?_ hHeld ?_
              rotate_left 1
              · intro w hSw; (try dsimp only at hSw); go_simp; (try with_reducible rfl)
              try simp only [List.foldl_cons, List.foldl_nil, List.length_cons, List.length_nil, Act.put, List.setIfInBounds_toArray, List.set_cons_zero, List.set_cons_succ]
              refine held_take 9 (some 22) (v := ?_) rfl rfl (by kernel_rfl) (by kernel_rfl) (by kernel_rfl) (fun _ _ _ _ h => h) (by kernel_rfl) ?_ hHeld ?_
              rotate_left 1
              · intro w hSw; (try dsimp only at hSw); go_simp; (try with_reducible rfl)
              try simp only [List.foldl_cons, List.foldl_nil, List.length_cons, List.length_nil, Act.put, List.setIfInBounds_toArray, List.set_cons_zero, List.set_cons_succ]
              refine held_take 10 (some 23) (v := ?_) rfl rfl (by kernel_rfl) (by kernel_rfl) (by kernel_rfl) (fun _ _ _ _ h => h) (by kernel_rfl) ?_ hHeld ?_
              rotate_left 1
              · intro w hSw; (try dsimp only at hSw); go_simp; (try with_reducible rfl)
              try simp only [List.foldl_cons, List.foldl_nil, List.length_cons, List.length_nil, Act.put, List.setIfInBounds_toArray, List.set_cons_zero, List.set_cons_succ]
              refine held_take 11 (some 24) (v := ?_) rfl rfl (by kernel_rfl) (by kernel_rfl) (by kernel_rfl) (fun _ _ _ _ h => h) (by kernel_rfl) ?_ hHeld ?_
              rotate_left 1
              · intro w hSw; (try dsimp only at hSw); go_simp; (try with_reducible rfl)
              try simp only [List.foldl_cons, List.foldl_nil, List.length_cons, List.length_nil, Act.put, List.setIfInBounds_toArray, List.set_cons_zero, List.set_cons_succ]
              refine held_take 12 (some 25) (v := ?_) rfl rfl (by kernel_rfl) (by kernel_rfl) (by kernel_rfl) (fun _ _ _ _ h => h) (by kernel_rfl) ?_ hHeld ?_
              rotate_left 1
              · intro w hSw; (try dsimp only at hSw); go_simp; (try with_reducible rfl)
              try simp only [List.foldl_cons, List.foldl_nil, List.length_cons, List.length_nil, Act.put, List.setIfInBounds_toArray, List.set_cons_zero, List.set_cons_succ]
              refine held_take 13 (some 26) (v := ?_) rfl rfl (by kernel_rfl) (by kernel_rfl) (by kernel_rfl) (fun _ _ _ _ h => h) (by kernel_rfl) ?_ hHeld ?_
              rotate_left 1
              · intro w hSw; (try dsimp only at hSw); go_simp; (try with_reducible rfl)
              try simp only [List.foldl_cons, List.foldl_nil, List.length_cons, List.length_nil, Act.put, List.setIfInBounds_toArray, List.set_cons_zero, List.set_cons_succ]
              refine held_take 14 (some 27) (v := ?_) rfl rfl (by kernel_rfl) (by kernel_rfl) (by kernel_rfl) (fun _ _ _ _ h => h) (by kernel_rfl) ?_ hHeld ?_
              rotate_left 1
              · intro w hSw; (try dsimp only at hSw); go_simp; (try with_reducible rfl)
              try simp only [List.foldl_cons, List.foldl_nil, List.length_cons, List.length_nil, Act.put, List.setIfInBounds_toArray, List.set_cons_zero, List.set_cons_succ]
              refine held_take 15 (some 28) (v := ?_) rfl rfl (by kernel_rfl) (by kernel_rfl) (by kernel_rfl) (fun _ _ _ _ h => h) (by kernel_rfl) ?_ hHeld ?_
              rotate_left 1
              · intro w hSw; (try dsimp only at hSw); go_simp; (try with_reducible rfl)
              try simp only [List.foldl_cons, List.foldl_nil, List.length_cons, List.length_nil, Act.put, List.setIfInBounds_toArray, List.set_cons_zero, List.set_cons_succ]
              refine held_take 16 (some 29) (v := ?_) rfl rfl (by kernel_rfl) (by kernel_rfl) (by kernel_rfl) (fun _ _ _ _ h => h) (by kernel_rfl) ?_ hHeld ?_
              rotate_left 1
              · intro w hSw; (try dsimp only at hSw); go_simp; (try with_reducible rfl)
              try simp only [List.foldl_cons, List.foldl_nil, List.length_cons, List.length_nil, Act.put, List.setIfInBounds_toArray, List.set_cons_zero, List.set_cons_succ]
              refine held_take 17 (some 30) (v := ?_) rfl rfl (by kernel_rfl) (by kernel_rfl) (by kernel_rfl) (fun _ _ _ _ h => h) (by kernel_rfl) ?_ hHeld ?_
              rotate_left 1
              · intro w hSw; (try dsimp only at hSw); go_simp; (try with_reducible rfl)
              try simp only [List.foldl_cons, List.foldl_nil, List.length_cons, List.length_nil, Act.put, List.setIfInBounds_toArray, List.set_cons_zero, List.set_cons_succ]
              refine held_take 18 (some 31) (v := ?_) rfl rfl (by kernel_rfl) (by kernel_rfl) (by kernel_rfl) (fun _ _ _ _ h => h) (by kernel_rfl) ?_ hHeld ?_
              rotate_left 1
              · intro w hSw; (try dsimp only at hSw); go_simp; (try with_reducible rfl)
              try simp only [List.foldl_cons, List.foldl_nil, List.length_cons, List.length_nil, Act.put, List.setIfInBounds_toArray, List.set_cons_zero, List.set_cons_succ]
              refine held_take 19 (some 32) (v := ?_) rfl rfl (by kernel_rfl) (by kernel_rfl) (by kernel_rfl) (fun _ _ _ _ h => h) (by kernel_rfl) ?_ hHeld ?_
              rotate_left 1
              · intro w hSw; (try dsimp only at hSw); go_simp; (try with_reducible rfl)
              try simp only [List.foldl_cons, List.foldl_nil, List.length_cons, List.length_nil, Act.put, List.setIfInBounds_toArray, List.set_cons_zero, List.set_cons_succ]
              refine held_skips (fuel := 27) (by kernel_rfl) (fun _ _ _ _ h => h) [(20, some 33), (21, some 34), (22, some 35), (23, some 36), (24, some 37), (25, some 38), (26, some 39)] (by kernel_rfl) hHeld ?_
              try simp only [List.foldl_cons, List.foldl_nil, List.length_cons, List.length_nil, Act.put, List.setIfInBounds_toArray, List.set_cons_zero, List.set_cons_succ]
              refine held_take 27 (some 40) (v := ?_) rfl rfl (by kernel_rfl) (by kernel_rfl) (by kernel_rfl) (fun _ _ _ _ h => h) (by kernel_rfl) ?_ hHeld ?_
              rotate_left 1
              · intro w hSw; (try dsimp only at hSw); go_simp; (try with_reducible rfl)
              try simp only [List.foldl_cons, List.foldl_nil, List.length_cons, List.length_nil, Act.put, List.setIfInBounds_toArray, List.set_cons_zero, List.set_cons_succ]
              refine held_take 28 (some 41) (v := ?_) rfl rfl (by kernel_rfl) (by kernel_rfl) (by kernel_rfl) (fun _ _ _ _ h => h) (by kernel_rfl) ?_ hHeld ?_
              rotate_left 1
              · intro w hSw; (try dsimp only at hSw); go_simp; (try with_reducible rfl)
              try simp only [List.foldl_cons, List.foldl_nil, List.length_cons, List.length_nil, Act.put, List.setIfInBounds_toArray, List.set_cons_zero, List.set_cons_succ]
              refine held_take 29 (some 42) (v := ?_) rfl rfl (by kernel_rfl) (by kernel_rfl) (by kernel_rfl) (fun _ _ _ _ h => h) (by kernel_rfl) ?_ hHeld ?_
              rotate_left 1
              · intro w hSw; (try dsimp only at hSw); go_simp; (try with_reducible rfl)
              try simp only [List.foldl_cons, List.foldl_nil, List.length_cons, List.length_nil, Act.put, List.setIfInBounds_toArray, List.set_cons_zero, List.set_cons_succ]
              refine held_take 30 (some 43) (v := ?_) rfl rfl (by kernel_rfl) (by kernel_rfl) (by kernel_rfl) (fun _ _ _ _ h => h) (by kernel_rfl) ?_ hHeld ?_
              rotate_left 1
              · intro w hSw; (try dsimp only at hSw); go_simp; (try with_reducible rfl)
              try simp only [List.foldl_cons, List.foldl_nil, List.length_cons, List.length_nil, Act.put, List.setIfInBounds_toArray, List.set_cons_zero, List.set_cons_succ]
              refine held_take 31 (some 44) (v := ?_) rfl rfl (by kernel_rfl) (by kernel_rfl) (by kernel_rfl) (fun _ _ _ _ h => h) (by kernel_rfl) ?_ hHeld ?_
              rotate_left 1
              · intro w hSw; (try dsimp only at hSw); go_simp; (try with_reducible rfl)
              try simp only [List.foldl_cons, List.foldl_nil, List.length_cons, List.length_nil, Act.put, List.setIfInBounds_toArray, List.set_cons_zero, List.set_cons_succ]
              refine held_take 32 (some 45) (v := ?_) rfl rfl (by kernel_rfl) (by kernel_rfl) (by kernel_rfl) (fun _ _ _ _ h => h) (by kernel_rfl) ?_ hHeld ?_
              rotate_left 1
              · intro w hSw; (try dsimp only at hSw); go_simp; (try with_reducible rfl)
              try simp only [List.foldl_cons, List.foldl_nil, List.length_cons, List.length_nil, Act.put, List.setIfInBounds_toArray, List.set_cons_zero, List.set_cons_succ]
              refine held_take 33 (some 46) (v := ?_) rfl rfl (by kernel_rfl) (by kernel_rfl) (by kernel_rfl) (fun _ _ _ _ h => h) (by kernel_rfl) ?_ hHeld ?_
              rotate_left 1
              · intro w hSw; (try dsimp only at hSw); go_simp; (try with_reducible rfl)
              try simp only [List.foldl_cons, List.foldl_nil, List.length_cons, List.length_nil, Act.put, List.setIfInBounds_toArray, List.set_cons_zero, List.set_cons_succ]
              refine held_take 34 (some 47) (v := ?_) rfl rfl (by kernel_rfl) (by kernel_rfl) (by kernel_rfl) (fun _ _ _ _ h => h) (by kernel_rfl) ?_ hHeld ?_
              rotate_left 1
              · intro w hSw; (try dsimp only at hSw); go_simp; (try with_reducible rfl)
              try simp only [List.foldl_cons, List.foldl_nil, List.length_cons, List.length_nil, Act.put, List.setIfInBounds_toArray, List.set_cons_zero, List.set_cons_succ]
              refine held_take 35 (some 48) (v := ?_) rfl rfl (by kernel_rfl) (by kernel_rfl) (by kernel_rfl) (fun _ _ _ _ h => h) (by kernel_rfl) ?_ hHeld ?_
              rotate_left 1
              · intro w hSw; (try dsimp only at hSw); go_simp; (try with_reducible rfl)
              try simp only [List.foldl_cons, List.foldl_nil, List.length_cons, List.length_nil, Act.put, List.setIfInBounds_toArray, List.set_cons_zero, List.set_cons_succ]
              refine held_take 36 (some 49) (v := ?_) rfl rfl (by kernel_rfl) (by kernel_rfl) (by kernel_rfl) (fun _ _ _ _ h => h) (by kernel_rfl) ?_ hHeld ?_
              rotate_left 1
              · intro w hSw; (try dsimp only at hSw); go_simp; (try with_reducible rfl)
              try simp only [List.foldl_cons, List.foldl_nil, List.length_cons, List.length_nil, Act.put, List.setIfInBounds_toArray, List.set_cons_zero, List.set_cons_succ]
              refine held_take 37 (some 50) (v := ?_) rfl rfl (by kernel_rfl) (by kernel_rfl) (by kernel_rfl) (fun _ _ _ _ h => h) (by kernel_rfl) ?_ hHeld ?_
              rotate_left 1
              · intro w hSw; (try dsimp only at hSw); go_simp; (try with_reducible rfl)
              try simp only [List.foldl_cons, List.foldl_nil, List.length_cons, List.length_nil, Act.put, List.setIfInBounds_toArray, List.set_cons_zero, List.set_cons_succ]
              refine held_take 38 (some 51) (v := ?_) rfl rfl (by kernel_rfl) (by kernel_rfl) (by kernel_rfl) (fun _ _ _ _ h => h) (by kernel_rfl) ?_ hHeld ?_
              rotate_left 1
              · intro w hSw; (try dsimp only at hSw); go_simp; (try with_reducible rfl)
              try simp only [List.foldl_cons, List.foldl_nil, List.length_cons, List.length_nil, Act.put, List.setIfInBounds_toArray, List.set_cons_zero, List.set_cons_succ]
              refine held_take 39 (some 52) (v := ?_) rfl rfl (by kernel_rfl) (by kernel_rfl) (by kernel_rfl) (fun _ _ _ _ h => h) (by kernel_rfl) ?_ hHeld ?_
              rotate_left 1
              · intro w hSw; (try dsimp only at hSw); go_simp; (try with_reducible rfl)
              try simp only [List.foldl_cons, List.foldl_nil, List.length_cons, List.length_nil, Act.put, List.setIfInBounds_toArray, List.set_cons_zero, List.set_cons_succ]
              refine held_take 40 (some 53) (v := ?_) rfl rfl (by kernel_rfl) (by kernel_rfl) (by kernel_rfl) (fun _ _ _ _ h => h) (by kernel_rfl) ?_ hHeld ?_
              rotate_left 1
              · intro w hSw; (try dsimp only at hSw); go_simp; (try with_reducible rfl)
              try simp only [List.foldl_cons, List.foldl_nil, List.length_cons, List.length_nil, Act.put, List.setIfInBounds_toArray, List.set_cons_zero, List.set_cons_succ]
              refine held_take 41 (some 54) (v := ?_) rfl rfl (by kernel_rfl) (by kernel_rfl) (by kernel_rfl) (fun _ _ _ _ h => h) (by kernel_rfl) ?_ hHeld ?_
              rotate_left 1
              · intro w hSw; (try dsimp only at hSw); go_simp; (try with_reducible rfl)
              try simp only [List.foldl_cons, List.foldl_nil, List.length_cons, List.length_nil, Act.put, List.setIfInBounds_toArray, List.set_cons_zero, List.set_cons_succ]
              refine held_take 42 (some 55) (v := ?_) rfl rfl (by kernel_rfl) (by kernel_rfl) (by kernel_rfl) (fun _ _ _ _ h => h) (by kernel_rfl) ?_ hHeld ?_
              rotate_left 1
              · intro w hSw; (try dsimp only at hSw); go_simp; (try with_reducible rfl)
              try simp only [List.foldl_cons, List.foldl_nil, List.length_cons, List.length_nil, Act.put, List.setIfInBounds_toArray, List.set_cons_zero, List.set_cons_succ]
              refine held_take 43 (some 56) (v := ?_) rfl rfl (by kernel_rfl) (by kernel_rfl) (by kernel_rfl) (fun _ _ _ _ h => h) (by kernel_rfl) ?_ hHeld ?_
              rotate_left 1
              · intro w hSw; (try dsimp only at hSw); go_simp; (try with_reducible rfl)
              try simp only [List.foldl_cons, List.foldl_nil, List.length_cons, List.length_nil, Act.put, List.setIfInBounds_toArray, List.set_cons_zero, List.set_cons_succ]
              refine held_take 44 (some 57) (v := ?_) rfl rfl (by kernel_rfl) (by kernel_rfl) (by kernel_rfl) (fun _ _ _ _ h => h) (by kernel_rfl) ?_ hHeld ?_
              rotate_left 1
              · intro w hSw; (try dsimp only at hSw); go_simp; (try with_reducible rfl)
              try simp only [List.foldl_cons, List.foldl_nil, List.length_cons, List.length_nil, Act.put, List.setIfInBounds_toArray, List.set_cons_zero, List.set_cons_succ]
              refine held_take 45 (some 58) (v := ?_) rfl rfl (by kernel_rfl) (by kernel_rfl) (by kernel_rfl) (fun _ _ _ _ h => h) (by kernel_rfl) ?_ hHeld ?_
              rotate_left 1
              · intro w hSw; (try dsimp only at hSw); go_simp; (try with_reducible rfl)
              try simp only [List.foldl_cons, List.foldl_nil, List.length_cons, List.length_nil, Act.put, List.setIfInBounds_toArray, List.set_cons_zero, List.set_cons_succ]
              refine held_take 46 (some 59) (v := ?_) rfl rfl (by kernel_rfl) (by kernel_rfl) (by kernel_rfl) (fun _ _ _ _ h => h) (by kernel_rfl) ?_ hHeld ?_
              rotate_left 1
              · intro w hSw; (try dsimp only at hSw); go_simp; (try with_reducible rfl)
              try simp only [List.foldl_cons, List.foldl_nil, List.length_cons, List.length_nil, Act.put, List.setIfInBounds_toArray, List.set_cons_zero, List.set_cons_succ]
              refine held_take 47 (some 60) (v := ?_) rfl rfl (by kernel_rfl) (by kernel_rfl) (by kernel_rfl) (fun _ _ _ _ h => h) (by kernel_rfl) ?_ hHeld ?_
              rotate_left 1
              · intro w hSw; (try dsimp only at hSw); go_simp; (try with_reducible rfl)
              try simp only [List.foldl_cons, List.foldl_nil, List.length_cons, List.length_nil, Act.put, List.setIfInBounds_toArray, List.set_cons_zero, List.set_cons_succ]
              refine held_take 48 (some 61) (v := ?_) rfl rfl (by kernel_rfl) (by kernel_rfl) (by kernel_rfl) (fun _ _ _ _ h => h) (by kernel_rfl) ?_ hHeld ?_
              rotate_left 1
              · intro w hSw; (try dsimp only at hSw); go_simp; (try with_reducible rfl)
              try simp only [List.foldl_cons, List.foldl_nil, List.length_cons, List.length_nil, Act.put, List.setIfInBounds_toArray, List.set_cons_zero, List.set_cons_succ]
              refine held_take 49 (some 62) (v := ?_) rfl rfl (by kernel_rfl) (by kernel_rfl) (by kernel_rfl) (fun _ _ _ _ h => h) (by kernel_rfl) ?_ hHeld ?_
              rotate_left 1
              · intro w hSw; (try dsimp only at hSw); go_simp; (try with_reducible rfl)
              try simp only [List.foldl_cons, List.foldl_nil, List.length_cons, List.length_nil, Act.put, List.setIfInBounds_toArray, List.set_cons_zero, List.set_cons_succ]
              refine held_take 50 (some 63) (v := ?_) rfl rfl (by kernel_rfl) (by kernel_rfl) (by kernel_rfl) (fun _ _ _ _ h => h) (by kernel_rfl) ?_ hHeld ?_
              rotate_left 1
              · intro w hSw; (try dsimp only at hSw); go_simp; (try with_reducible rfl)
              try simp only [List.foldl_cons, List.foldl_nil, List.length_cons, List.length_nil, Act.put, List.setIfInBounds_toArray, List.set_cons_zero, List.set_cons_succ]
              refine wpAnyH_ready (rs := [51]) (by kernel_rfl) (by simp) ?_
              refine AllReadyH.cons rfl (fun K hK => ?_) AllReadyH.nil
              go_simp
              (go_at_call 9; refine (HH.out.valid ⟨#[]⟩ _ hrem HTd.out).mono ?_; rintro e w1 ⟨rfl, hb⟩; rw [HV])
              go_wp2_with fail
              have hOld := hHeld
              clear hHeld
              refine hK.out _ _ ?_ (fun hHeld => ?_)
              · exact ⟨cell_later hb hOld.1, cell_later hb hOld.2.1, cell_later hb hOld.2.2.1, cell_later hb hOld.2.2.2⟩
              clear hK K hOld
              try simp only [List.foldl_cons, List.foldl_nil, List.length_cons, List.length_nil, Act.put, List.setIfInBounds_toArray, List.set_cons_zero, List.set_cons_succ]
              refine held_take 52 (some 65) (v := ?_) rfl rfl (by kernel_rfl) (by kernel_rfl) (by kernel_rfl) (fun _ _ _ _ h => h) (by kernel_rfl) ?_ hHeld ?_
              rotate_left 1
              · intro w hSw; (try dsimp only at hSw); go_simp; (try with_reducible rfl)
              try simp only [List.foldl_cons, List.foldl_nil, List.length_cons, List.length_nil, Act.put, List.setIfInBounds_toArray, List.set_cons_zero, List.set_cons_succ]
              refine held_take 53 (some 66) (v := ?_) rfl rfl (by kernel_rfl) (by kernel_rfl) (by kernel_rfl) (fun _ _ _ _ h => h) (by kernel_rfl) ?_ hHeld ?_
              rotate_left 1
              · intro w hSw; (try dsimp only at hSw); go_simp; (try with_reducible rfl)
              try simp only [List.foldl_cons, List.foldl_nil, List.length_cons, List.length_nil, Act.put, List.setIfInBounds_toArray, List.set_cons_zero, List.set_cons_succ]
              refine wpAnyH_done (by kernel_rfl) ?_ _
              go_wp2
              go_ret
              exact ⟨⟨_, rfl, fun h => by cases h⟩, below_step (Nat.le_refl _) hbd hb⟩
            · go_wp2_with fail
              refine held_begin (S := fun w' => w'.cell? (a.add (k * 4)) = some (.bool false) ∧ w'.cell? ⟨(a.add (k * 4)).block, (a.add (k * 4)).off + 1, none⟩ = some (.string ⟨#[]⟩) ∧ w'.cell? ⟨(a.add (k * 4)).block, (a.add (k * 4)).off + 2, none⟩ = some (.slice na n nc) ∧ w'.cell? ⟨(a.add (k * 4)).block, (a.add (k * 4)).off + 3, none⟩ = some (.slice ha n hc)) 54 (by rfl) (by kernel_rfl) ?_ (fun hHeld => ?_)
              · exact ⟨by simpa using q0, by simpa using q1, by simpa using q2, by simpa using q3⟩
              refine held_take 0 (some 13) (v := ?_) rfl rfl (by kernel_rfl) (by kernel_rfl) (by kernel_rfl) (fun _ _ _ _ h => h) (by kernel_rfl) ?_ hHeld ?_
              rotate_left 1
              · intro w hSw; (try dsimp only at hSw); go_simp; (try with_reducible rfl)
              try simp only [List.foldl_cons, List.foldl_nil, List.length_cons, List.length_nil, Act.put, List.setIfInBounds_toArray, List.set_cons_zero, List.set_cons_succ]
              refine held_take 1 (some 14) (v := ?_) rfl rfl (by kernel_rfl) (by kernel_rfl) (by kernel_rfl) (fun _ _ _ _ h => h) (by kernel_rfl) ?_ hHeld ?_
              rotate_left 1
              · intro w hSw; (try dsimp only at hSw); go_simp; (try with_reducible rfl)
              try simp only [List.foldl_cons, List.foldl_nil, List.length_cons, List.length_nil, Act.put, List.setIfInBounds_toArray, List.set_cons_zero, List.set_cons_succ]
              refine held_take 2 (some 15) (v := ?_) rfl rfl (by kernel_rfl) (by kernel_rfl) (by kernel_rfl) (fun _ _ _ _ h => h) (by kernel_rfl) ?_ hHeld ?_
              rotate_left 1
              · intro w hSw; (try dsimp only at hSw); go_simp; (try with_reducible rfl)
              try simp only [List.foldl_cons, List.foldl_nil, List.length_cons, List.length_nil, Act.put, List.setIfInBounds_toArray, List.set_cons_zero, List.set_cons_succ]
              refine held_take 3 (some 16) (v := ?_) rfl rfl (by kernel_rfl) (by kernel_rfl) (by kernel_rfl) (fun _ _ _ _ h => h) (by kernel_rfl) ?_ hHeld ?_
              rotate_left 1
              · intro w hSw; (try dsimp only at hSw); go_simp; (try with_reducible rfl)
              try simp only [List.foldl_cons, List.foldl_nil, List.length_cons, List.length_nil, Act.put, List.setIfInBounds_toArray, List.set_cons_zero, List.set_cons_succ]
              refine held_take 4 (some 17) (v := ?_) rfl rfl (by kernel_rfl) (by kernel_rfl) (by kernel_rfl) (fun _ _ _ _ h => h) (by kernel_rfl) ?_ hHeld ?_
              rotate_left 1
              · intro w hSw; (try dsimp only at hSw); go_simp; (try with_reducible rfl)
              try simp only [List.foldl_cons, List.foldl_nil, List.length_cons, List.length_nil, Act.put, List.setIfInBounds_toArray, List.set_cons_zero, List.set_cons_succ]
              refine held_take 5 (some 18) (v := ?_) rfl rfl (by kernel_rfl) (by kernel_rfl) (by kernel_rfl) (fun _ _ _ _ h => h) (by kernel_rfl) ?_ hHeld ?_
              rotate_left 1
              · intro w hSw; (try dsimp only at hSw); go_simp; (try with_reducible rfl)
              try simp only [List.foldl_cons, List.foldl_nil, List.length_cons, List.length_nil, Act.put, List.setIfInBounds_toArray, List.set_cons_zero, List.set_cons_succ]
              refine held_take 6 (some 19) (v := ?_) rfl rfl (by kernel_rfl) (by kernel_rfl) (by kernel_rfl) (fun _ _ _ _ h => h) (by kernel_rfl) ?_ hHeld ?_
              rotate_left 1
              · intro w hSw; (try dsimp only at hSw); go_simp; (try with_reducible rfl)
              try simp only [List.foldl_cons, List.foldl_nil, List.length_cons, List.length_nil, Act.put, List.setIfInBounds_toArray, List.set_cons_zero, List.set_cons_succ]
              refine held_take 7 (some 20) (v := ?_) rfl rfl (by kernel_rfl) (by kernel_rfl) (by kernel_rfl) (fun _ _ _ _ h => h) (by kernel_rfl) ?_ hHeld ?_
              rotate_left 1
              · intro w hSw; (try dsimp only at hSw); go_simp; (try with_reducible rfl)
              try simp only [List.foldl_cons, List.foldl_nil, List.length_cons, List.length_nil, Act.put, List.setIfInBounds_toArray, List.set_cons_zero, List.set_cons_succ]
              refine held_take 8 (some 21) (v := ?_) rfl rfl (by kernel_rfl) (by kernel_rfl) (by kernel_rfl) (fun _ _ _ _ h => h) (by kernel_rfl) ?_ hHeld ?_
              rotate_left 1
              · intro w hSw; (try dsimp only at hSw); go_simp; (try with_reducible rfl)
              try simp only [List.foldl_cons, List.foldl_nil, List.length_cons, List.length_nil, Act.put, List.setIfInBounds_toArray, List.set_cons_zero, List.set_cons_succ]
              refine held_take 9 (some 22) (v := ?_) rfl rfl (by kernel_rfl) (by kernel_rfl) (by kernel_rfl) (fun _ _ _ _ h => h) (by kernel_rfl) ?_ hHeld ?_
              rotate_left 1
              · intro w hSw; (try dsimp only at hSw); go_simp; (try with_reducible rfl)
              try simp only [List.foldl_cons, List.foldl_nil, List.length_cons, List.length_nil, Act.put, List.setIfInBounds_toArray, List.set_cons_zero, List.set_cons_succ]
              refine held_take 10 (some 23) (v := ?_) rfl rfl (by kernel_rfl) (by kernel_rfl) (by kernel_rfl) (fun _ _ _ _ h => h) (by kernel_rfl) ?_ hHeld ?_
              rotate_left 1
              · intro w hSw; (try dsimp only at hSw); go_simp; (try with_reducible rfl)
              try simp only [List.foldl_cons, List.foldl_nil, List.length_cons, List.length_nil, Act.put, List.setIfInBounds_toArray, List.set_cons_zero, List.set_cons_succ]
              refine held_take 11 (some 24) (v := ?_) rfl rfl (by kernel_rfl) (by kernel_rfl) (by kernel_rfl) (fun _ _ _ _ h => h) (by kernel_rfl) ?_ hHeld ?_
              rotate_left 1
              · intro w hSw; (try dsimp only at hSw); go_simp; (try with_reducible rfl)
              try simp only [List.foldl_cons, List.foldl_nil, List.length_cons, List.length_nil, Act.put, List.setIfInBounds_toArray, List.set_cons_zero, List.set_cons_succ]
              refine held_take 12 (some 25) (v := ?_) rfl rfl (by kernel_rfl) (by kernel_rfl) (by kernel_rfl) (fun _ _ _ _ h => h) (by kernel_rfl) ?_ hHeld ?_
              rotate_left 1
              · intro w hSw; (try dsimp only at hSw); go_simp; (try with_reducible rfl)
              try simp only [List.foldl_cons, List.foldl_nil, List.length_cons, List.length_nil, Act.put, List.setIfInBounds_toArray, List.set_cons_zero, List.set_cons_succ]
              refine held_take 13 (some 26) (v := ?_) rfl rfl (by kernel_rfl) (by kernel_rfl) (by kernel_rfl) (fun _ _ _ _ h => h) (by kernel_rfl) ?_ hHeld ?_
              rotate_left 1
              · intro w hSw; (try dsimp only at hSw); go_simp; (try with_reducible rfl)
              try simp only [List.foldl_cons, List.foldl_nil, List.length_cons, List.length_nil, Act.put, List.setIfInBounds_toArray, List.set_cons_zero, List.set_cons_succ]
              refine held_take 14 (some 27) (v := ?_) rfl rfl (by kernel_rfl) (by kernel_rfl) (by kernel_rfl) (fun _ _ _ _ h => h) (by kernel_rfl) ?_ hHeld ?_
              rotate_left 1
              · intro w hSw; (try dsimp only at hSw); go_simp; (try with_reducible rfl)
              try simp only [List.foldl_cons, List.foldl_nil, List.length_cons, List.length_nil, Act.put, List.setIfInBounds_toArray, List.set_cons_zero, List.set_cons_succ]
              refine held_take 15 (some 28) (v := ?_) rfl rfl (by kernel_rfl) (by kernel_rfl) (by kernel_rfl) (fun _ _ _ _ h => h) (by kernel_rfl) ?_ hHeld ?_
              rotate_left 1
              · intro w hSw; (try dsimp only at hSw); go_simp; (try with_reducible rfl)
              try simp only [List.foldl_cons, List.foldl_nil, List.length_cons, List.length_nil, Act.put, List.setIfInBounds_toArray, List.set_cons_zero, List.set_cons_succ]
              refine held_take 16 (some 29) (v := ?_) rfl rfl (by kernel_rfl) (by kernel_rfl) (by kernel_rfl) (fun _ _ _ _ h => h) (by kernel_rfl) ?_ hHeld ?_
              rotate_left 1
              · intro w hSw; (try dsimp only at hSw); go_simp; (try with_reducible rfl)
              try simp only [List.foldl_cons, List.foldl_nil, List.length_cons, List.length_nil, Act.put, List.setIfInBounds_toArray, List.set_cons_zero, List.set_cons_succ]
              refine held_take 17 (some 30) (v := ?_) rfl rfl (by kernel_rfl) (by kernel_rfl) (by kernel_rfl) (fun _ _ _ _ h => h) (by kernel_rfl) ?_ hHeld ?_
              rotate_left 1
              · intro w hSw; (try dsimp only at hSw); go_simp; (try with_reducible rfl)
              try simp only [List.foldl_cons, List.foldl_nil, List.length_cons, List.length_nil, Act.put, List.setIfInBounds_toArray, List.set_cons_zero, List.set_cons_succ]
              refine held_take 18 (some 31) (v := ?_) rfl rfl (by kernel_rfl) (by kernel_rfl) (by kernel_rfl) (fun _ _ _ _ h => h) (by kernel_rfl) ?_ hHeld ?_
              rotate_left 1
              · intro w hSw; (try dsimp only at hSw); go_simp; (try with_reducible rfl)
              try simp only [List.foldl_cons, List.foldl_nil, List.length_cons, List.length_nil, Act.put, List.setIfInBounds_toArray, List.set_cons_zero, List.set_cons_succ]
              refine held_take 19 (some 32) (v := ?_) rfl rfl (by kernel_rfl) (by kernel_rfl) (by kernel_rfl) (fun _ _ _ _ h => h) (by kernel_rfl) ?_ hHeld ?_
              rotate_left 1
              · intro w hSw; (try dsimp only at hSw); go_simp; (try with_reducible rfl)
              try simp only [List.foldl_cons, List.foldl_nil, List.length_cons, List.length_nil, Act.put, List.setIfInBounds_toArray, List.set_cons_zero, List.set_cons_succ]
              refine held_skips (fuel := 27) (by kernel_rfl) (fun _ _ _ _ h => h) [(20, some 33), (21, some 34), (22, some 35), (23, some 36), (24, some 37), (25, some 38), (26, some 39)] (by kernel_rfl) hHeld ?_
              try simp only [List.foldl_cons, List.foldl_nil, List.length_cons, List.length_nil, Act.put, List.setIfInBounds_toArray, List.set_cons_zero, List.set_cons_succ]
              refine held_take 27 (some 40) (v := ?_) rfl rfl (by kernel_rfl) (by kernel_rfl) (by kernel_rfl) (fun _ _ _ _ h => h) (by kernel_rfl) ?_ hHeld ?_
              rotate_left 1
              · intro w hSw; (try dsimp only at hSw); go_simp; (try with_reducible rfl)
              try simp only [List.foldl_cons, List.foldl_nil, List.length_cons, List.length_nil, Act.put, List.setIfInBounds_toArray, List.set_cons_zero, List.set_cons_succ]
              refine held_take 28 (some 41) (v := ?_) rfl rfl (by kernel_rfl) (by kernel_rfl) (by kernel_rfl) (fun _ _ _ _ h => h) (by kernel_rfl) ?_ hHeld ?_
              rotate_left 1
              · intro w hSw; (try dsimp only at hSw); go_simp; (try with_reducible rfl)
              try simp only [List.foldl_cons, List.foldl_nil, List.length_cons, List.length_nil, Act.put, List.setIfInBounds_toArray, List.set_cons_zero, List.set_cons_succ]
              refine held_take 29 (some 42) (v := ?_) rfl rfl (by kernel_rfl) (by kernel_rfl) (by kernel_rfl) (fun _ _ _ _ h => h) (by kernel_rfl) ?_ hHeld ?_
              rotate_left 1
              · intro w hSw; (try dsimp only at hSw); go_simp; (try with_reducible rfl)
              try simp only [List.foldl_cons, List.foldl_nil, List.length_cons, List.length_nil, Act.put, List.setIfInBounds_toArray, List.set_cons_zero, List.set_cons_succ]
              refine held_take 30 (some 43) (v := ?_) rfl rfl (by kernel_rfl) (by kernel_rfl) (by kernel_rfl) (fun _ _ _ _ h => h) (by kernel_rfl) ?_ hHeld ?_
              rotate_left 1
              · intro w hSw; (try dsimp only at hSw); go_simp; (try with_reducible rfl)
              try simp only [List.foldl_cons, List.foldl_nil, List.length_cons, List.length_nil, Act.put, List.setIfInBounds_toArray, List.set_cons_zero, List.set_cons_succ]
              refine held_take 31 (some 44) (v := ?_) rfl rfl (by kernel_rfl) (by kernel_rfl) (by kernel_rfl) (fun _ _ _ _ h => h) (by kernel_rfl) ?_ hHeld ?_
              rotate_left 1
              · intro w hSw; (try dsimp only at hSw); go_simp; (try with_reducible rfl)
              try simp only [List.foldl_cons, List.foldl_nil, List.length_cons, List.length_nil, Act.put, List.setIfInBounds_toArray, List.set_cons_zero, List.set_cons_succ]
              refine held_take 32 (some 45) (v := ?_) rfl rfl (by kernel_rfl) (by kernel_rfl) (by kernel_rfl) (fun _ _ _ _ h => h) (by kernel_rfl) ?_ hHeld ?_
              rotate_left 1
              · intro w hSw; (try dsimp only at hSw); go_simp; (try with_reducible rfl)
              try simp only [List.foldl_cons, List.foldl_nil, List.length_cons, List.length_nil, Act.put, List.setIfInBounds_toArray, List.set_cons_zero, List.set_cons_succ]
              refine held_take 33 (some 46) (v := ?_) rfl rfl (by kernel_rfl) (by kernel_rfl) (by kernel_rfl) (fun _ _ _ _ h => h) (by kernel_rfl) ?_ hHeld ?_
              rotate_left 1
              · intro w hSw; (try dsimp only at hSw); go_simp; (try with_reducible rfl)
              try simp only [List.foldl_cons, List.foldl_nil, List.length_cons, List.length_nil, Act.put, List.setIfInBounds_toArray, List.set_cons_zero, List.set_cons_succ]
              refine held_take 34 (some 47) (v := ?_) rfl rfl (by kernel_rfl) (by kernel_rfl) (by kernel_rfl) (fun _ _ _ _ h => h) (by kernel_rfl) ?_ hHeld ?_
              rotate_left 1
              · intro w hSw; (try dsimp only at hSw); go_simp; (try with_reducible rfl)
              try simp only [List.foldl_cons, List.foldl_nil, List.length_cons, List.length_nil, Act.put, List.setIfInBounds_toArray, List.set_cons_zero, List.set_cons_succ]
              refine held_take 35 (some 48) (v := ?_) rfl rfl (by kernel_rfl) (by kernel_rfl) (by kernel_rfl) (fun _ _ _ _ h => h) (by kernel_rfl) ?_ hHeld ?_
              rotate_left 1
              · intro w hSw; (try dsimp only at hSw); go_simp; (try with_reducible rfl)
              try simp only [List.foldl_cons, List.foldl_nil, List.length_cons, List.length_nil, Act.put, List.setIfInBounds_toArray, List.set_cons_zero, List.set_cons_succ]
              refine held_take 36 (some 49) (v := ?_) rfl rfl (by kernel_rfl) (by kernel_rfl) (by kernel_rfl) (fun _ _ _ _ h => h) (by kernel_rfl) ?_ hHeld ?_
              rotate_left 1
              · intro w hSw; (try dsimp only at hSw); go_simp; (try with_reducible rfl)
              try simp only [List.foldl_cons, List.foldl_nil, List.length_cons, List.length_nil, Act.put, List.setIfInBounds_toArray, List.set_cons_zero, List.set_cons_succ]
              refine held_take 37 (some 50) (v := ?_) rfl rfl (by kernel_rfl) (by kernel_rfl) (by kernel_rfl) (fun _ _ _ _ h => h) (by kernel_rfl) ?_ hHeld ?_
              rotate_left 1
              · intro w hSw; (try dsimp only at hSw); go_simp; (try with_reducible rfl)
              try simp only [List.foldl_cons, List.foldl_nil, List.length_cons, List.length_nil, Act.put, List.setIfInBounds_toArray, List.set_cons_zero, List.set_cons_succ]
              refine held_take 38 (some 51) (v := ?_) rfl rfl (by kernel_rfl) (by kernel_rfl) (by kernel_rfl) (fun _ _ _ _ h => h) (by kernel_rfl) ?_ hHeld ?_
              rotate_left 1
              · intro w hSw; (try dsimp only at hSw); go_simp; (try with_reducible rfl)
              try simp only [List.foldl_cons, List.foldl_nil, List.length_cons, List.length_nil, Act.put, List.setIfInBounds_toArray, List.set_cons_zero, List.set_cons_succ]
              refine held_take 39 (some 52) (v := ?_) rfl rfl (by kernel_rfl) (by kernel_rfl) (by kernel_rfl) (fun _ _ _ _ h => h) (by kernel_rfl) ?_ hHeld ?_
              rotate_left 1
              · intro w hSw; (try dsimp only at hSw); go_simp; (try with_reducible rfl)
              try simp only [List.foldl_cons, List.foldl_nil, List.length_cons, List.length_nil, Act.put, List.setIfInBounds_toArray, List.set_cons_zero, List.set_cons_succ]
              refine held_take 40 (some 53) (v := ?_) rfl rfl (by kernel_rfl) (by kernel_rfl) (by kernel_rfl) (fun _ _ _ _ h => h) (by kernel_rfl) ?_ hHeld ?_
              rotate_left 1
              · intro w hSw; (try dsimp only at hSw); go_simp; (try with_reducible rfl)
              try simp only [List.foldl_cons, List.foldl_nil, List.length_cons, List.length_nil, Act.put, List.setIfInBounds_toArray, List.set_cons_zero, List.set_cons_succ]
              refine held_take 41 (some 54) (v := ?_) rfl rfl (by kernel_rfl) (by kernel_rfl) (by kernel_rfl) (fun _ _ _ _ h => h) (by kernel_rfl) ?_ hHeld ?_
              rotate_left 1
              · intro w hSw; (try dsimp only at hSw); go_simp; (try with_reducible rfl)
              try simp only [List.foldl_cons, List.foldl_nil, List.length_cons, List.length_nil, Act.put, List.setIfInBounds_toArray, List.set_cons_zero, List.set_cons_succ]
              refine held_take 42 (some 55) (v := ?_) rfl rfl (by kernel_rfl) (by kernel_rfl) (by kernel_rfl) (fun _ _ _ _ h => h) (by kernel_rfl) ?_ hHeld ?_
              rotate_left 1
              · intro w hSw; (try dsimp only at hSw); go_simp; (try with_reducible rfl)
              try simp only [List.foldl_cons, List.foldl_nil, List.length_cons, List.length_nil, Act.put, List.setIfInBounds_toArray, List.set_cons_zero, List.set_cons_succ]
              refine held_take 43 (some 56) (v := ?_) rfl rfl (by kernel_rfl) (by kernel_rfl) (by kernel_rfl) (fun _ _ _ _ h => h) (by kernel_rfl) ?_ hHeld ?_
              rotate_left 1
              · intro w hSw; (try dsimp only at hSw); go_simp; (try with_reducible rfl)
              try simp only [List.foldl_cons, List.foldl_nil, List.length_cons, List.length_nil, Act.put, List.setIfInBounds_toArray, List.set_cons_zero, List.set_cons_succ]
              refine held_take 44 (some 57) (v := ?_) rfl rfl (by kernel_rfl) (by kernel_rfl) (by kernel_rfl) (fun _ _ _ _ h => h) (by kernel_rfl) ?_ hHeld ?_
              rotate_left 1
              · intro w hSw; (try dsimp only at hSw); go_simp; (try with_reducible rfl)
              try simp only [List.foldl_cons, List.foldl_nil, List.length_cons, List.length_nil, Act.put, List.setIfInBounds_toArray, List.set_cons_zero, List.set_cons_succ]
              refine held_take 45 (some 58) (v := ?_) rfl rfl (by kernel_rfl) (by kernel_rfl) (by kernel_rfl) (fun _ _ _ _ h => h) (by kernel_rfl) ?_ hHeld ?_
              rotate_left 1
              · intro w hSw; (try dsimp only at hSw); go_simp; (try with_reducible rfl)
              try simp only [List.foldl_cons, List.foldl_nil, List.length_cons, List.length_nil, Act.put, List.setIfInBounds_toArray, List.set_cons_zero, List.set_cons_succ]
              refine held_take 46 (some 59) (v := ?_) rfl rfl (by kernel_rfl) (by kernel_rfl) (by kernel_rfl) (fun _ _ _ _ h => h) (by kernel_rfl) ?_ hHeld ?_
              rotate_left 1
              · intro w hSw; (try dsimp only at hSw); go_simp; (try with_reducible rfl)
              try simp only [List.foldl_cons, List.foldl_nil, List.length_cons, List.length_nil, Act.put, List.setIfInBounds_toArray, List.set_cons_zero, List.set_cons_succ]
              refine held_take 47 (some 60) (v := ?_) rfl rfl (by kernel_rfl) (by kernel_rfl) (by kernel_rfl) (fun _ _ _ _ h => h) (by kernel_rfl) ?_ hHeld ?_
              rotate_left 1
              · intro w hSw; (try dsimp only at hSw); go_simp; (try with_reducible rfl)
              try simp only [List.foldl_cons, List.foldl_nil, List.length_cons, List.length_nil, Act.put, List.setIfInBounds_toArray, List.set_cons_zero, List.set_cons_succ]
              refine held_take 48 (some 61) (v := ?_) rfl rfl (by kernel_rfl) (by kernel_rfl) (by kernel_rfl) (fun _ _ _ _ h => h) (by kernel_rfl) ?_ hHeld ?_
              rotate_left 1
              · intro w hSw; (try dsimp only at hSw); go_simp; (try with_reducible rfl)
              try simp only [List.foldl_cons, List.foldl_nil, List.length_cons, List.length_nil, Act.put, List.setIfInBounds_toArray, List.set_cons_zero, List.set_cons_succ]
              refine held_take 49 (some 62) (v := ?_) rfl rfl (by kernel_rfl) (by kernel_rfl) (by kernel_rfl) (fun _ _ _ _ h => h) (by kernel_rfl) ?_ hHeld ?_
              rotate_left 1
              · intro w hSw; (try dsimp only at hSw); go_simp; (try with_reducible rfl)
              try simp only [List.foldl_cons, List.foldl_nil, List.length_cons, List.length_nil, Act.put, List.setIfInBounds_toArray, List.set_cons_zero, List.set_cons_succ]
              refine held_take 50 (some 63) (v := ?_) rfl rfl (by kernel_rfl) (by kernel_rfl) (by kernel_rfl) (fun _ _ _ _ h => h) (by kernel_rfl) ?_ hHeld ?_
              rotate_left 1
              · intro w hSw; (try dsimp only at hSw); go_simp; (try with_reducible rfl)
              try simp only [List.foldl_cons, List.foldl_nil, List.length_cons, List.length_nil, Act.put, List.setIfInBounds_toArray, List.set_cons_zero, List.set_cons_succ]
              refine wpAnyH_ready (rs := [51]) (by kernel_rfl) (by simp) ?_
              refine AllReadyH.cons rfl (fun K hK => ?_) AllReadyH.nil
              go_simp
              (go_at_call 9; refine (HH.out.valid ⟨#[]⟩ _ hrem HTd.out).mono ?_; rintro e w1 ⟨rfl, hb⟩; rw [HV])
              go_wp2_with fail
              have hOld := hHeld
              clear hHeld
              refine hK.out _ _ ?_ (fun hHeld => ?_)
              · exact ⟨cell_later hb hOld.1, cell_later hb hOld.2.1, cell_later hb hOld.2.2.1, cell_later hb hOld.2.2.2⟩
              clear hK K hOld
              try simp only [List.foldl_cons, List.foldl_nil, List.length_cons, List.length_nil, Act.put, List.setIfInBounds_toArray, List.set_cons_zero, List.set_cons_succ]
              refine held_take 52 (some 65) (v := ?_) rfl rfl (by kernel_rfl) (by kernel_rfl) (by kernel_rfl) (fun _ _ _ _ h => h) (by kernel_rfl) ?_ hHeld ?_
              rotate_left 1
              · intro w hSw; (try dsimp only at hSw); go_simp; (try with_reducible rfl)
              try simp only [List.foldl_cons, List.foldl_nil, List.length_cons, List.length_nil, Act.put, List.setIfInBounds_toArray, List.set_cons_zero, List.set_cons_succ]
              refine held_take 53 (some 66) (v := ?_) rfl rfl (by kernel_rfl) (by kernel_rfl) (by kernel_rfl) (fun _ _ _ _ h => h) (by kernel_rfl) ?_ hHeld ?_
              rotate_left 1
              · intro w hSw; (try dsimp only at hSw); go_simp; (try with_reducible rfl)
              try simp only [List.foldl_cons, List.foldl_nil, List.length_cons, List.length_nil, Act.put, List.setIfInBounds_toArray, List.set_cons_zero, List.set_cons_succ]
              refine wpAnyH_done (by kernel_rfl) ?_ _
              have HT2 := Lib.hid (HH.out.later _ _ HTd.out hb)
              have hb12 : Below W1.heap.size W1 w1 := ((Below.refl W1.heap.size W1).drew).trans hb
              have hbw1 := below_step (Nat.le_refl _) hbd hb
              obtain ⟨x0, x1, x2, x3⟩ := hHeld
              have HQ4' := Lib.hid (HQ4.out.below hb12)
              have HQ5' := Lib.hid (HQ5.out.below hb12)
              clear q0 q1 q2 q3 HQ4 HQ5 hb HV
              go_wp2_with fail
              go_loopw [4] (fun i wr => ∃ j : Nat, j ≤ n ∧ i = .int .i64 j ∧ T wr ∧ Below w1.heap.size w1 wr ∧ Hid (∀ j', j' < j → Code (Hh j') ∧ ∀ k', k' < j' → S k' ≠ S j')) (fun i _ => n - (intOf i).toNat)
              case atStart => exact ⟨0, Nat.zero_le _, rfl, HT2.out, Below.refl _ _, Lib.hid (fun j hj => absurd hj (by omega))⟩
              case round =>
                obtain ⟨j, hj, rfl, hT3, hb3, HI⟩ := hrel
                have HT3 := Lib.hid hT3
                clear hT3
                rename World => W3
                have y0 := cell_later hb3 x0
                have y1 := cell_later hb3 x1
                have y2 := cell_later hb3 x2
                have y3 := cell_later hb3 x3
                have hbw3 := below_step (Nat.le_refl _) hbw1 hb3
                clear x0 x1
                by_cases hltj : j < n
                · obtain ⟨an, rfl, hsn⟩ := strs_at HQ4'.out hltj
                  obtain ⟨ah, rfl, hin⟩ := IntsIn.at HQ5'.out hltj
                  have hsj := HSS.out j hltj
                  have y4 := cell_later hb3 hsn
                  have y5 := cell_later hb3 hin
                  obtain ⟨hh, hhe⟩ : ∃ hh, hh = Hh j := ⟨_, rfl⟩
                  obtain ⟨sj, hse⟩ : ∃ sj, sj = S j := ⟨_, rfl⟩
                  rw [← hhe] at y5
                  rw [← hse] at y4
                  try simp only at hsj
                  rw [← hse] at hsj
                  have HHe := Lib.hid hhe
                  have HSe := Lib.hid hse
                  clear hhe hse hsn hin
                  by_cases hcode : Code hh
                  · have HC := Lib.hid hcode
                    have HI2 : Hid ((∀ l', l' < j → S l' ≠ S j) → ∀ j', j' < j + 1 → Code (Hh j') ∧ ∀ k', k' < j' → S k' ≠ S j') := Lib.hid (fun hl j' hj' => by
                      by_cases hjj : j' < j
                      · exact HI.out j' hjj
                      · obtain rfl : j' = j := by omega
                        exact ⟨by rw [← HHe.out]; exact HC.out, hl⟩)
                    cases HV : Lib.validD sj.data.toList
                    · rcases hcode with rfl | rfl | rfl
                      all_goals
                        go_wp2_with (go_at_call 9; refine (HH.out.valid _ _ hsj HT3.out).mono ?_; rintro e w4 ⟨rfl, hb4⟩; rw [HV])
                        go_ret
                        exact ⟨⟨_, rfl, fun h => by cases h⟩, below_step (Nat.le_refl _) hbw3 hb4⟩
                    · rcases hcode with rfl | rfl | rfl
                      all_goals
                        go_wp2_with (go_at_call 9; refine (HH.out.valid _ _ hsj HT3.out).mono ?_; rintro e w4 ⟨rfl, hb4⟩; rw [HV])
                        have HT4 := Lib.hid (HH.out.later _ _ HT3.out hb4)
                        have hbw4 := below_step (Nat.le_refl _) hbw3 hb4
                        have z2 := cell_later hb4 y2
                        have z4 := cell_later hb4 y4
                        have hb14 := below_step (Nat.le_refl _) hb3 hb4
                        clear HV y4 y5
                        go_wp2_with fail
                        go_loopw [6] (fun i wr => ∃ l : Nat, l ≤ j ∧ i = .int .i64 l ∧ T wr ∧ Below w4.heap.size w4 wr ∧ Hid (∀ l', l' < l → S l' ≠ S j)) (fun i _ => j - (intOf i).toNat)
                        case atStart => exact ⟨0, Nat.zero_le _, rfl, HT4.out, Below.refl _ _, Lib.hid (fun l hl => absurd hl (by omega))⟩
                        case round =>
                          obtain ⟨l, hl, rfl, hT5, hb5, HL⟩ := hrel
                          have HT5 := Lib.hid hT5
                          clear hT5
                          rename World => W5
                          have v2 := cell_later hb5 z2
                          have v4 := cell_later hb5 z4
                          have hbw5 := below_step (Nat.le_refl _) hbw4 hb5
                          by_cases hltl : l < j
                          · have hsl : W5.cell? (an.add l) = some (.string (S l)) := by
                              obtain ⟨an', e1, hsl⟩ := strs_at HQ4'.out (show l < n by omega)
                              obtain rfl : an = an' := Option.some.inj e1
                              exact cell_later hb5 (cell_later hb14 hsl)
                            have hl0 : (0 : Int) ≤ l := by omega
                            have hltn : (l : Int) < n := by omega
                            have hj0 : (0 : Int) ≤ j := by omega
                            have hjn : (j : Int) < n := by omega
                            obtain ⟨sl, hsle⟩ : ∃ sl, sl = S l := ⟨_, rfl⟩
                            rw [← hsle] at hsl
                            have HSl := Lib.hid hsle
                            clear hsle
                            by_cases hsame : sl = sj
                            · have hsm := seq_true hsame
                              clear hsame
                              go_wp2_with fail
                              go_region_held3 (fun w' => w'.cell? ⟨(a.add (k * 4)).block, (a.add (k * 4)).off + 2, none⟩ = some (.slice (some an) n nc) ∧ w'.cell? (an.add l) = some (.string sl) ∧ w'.cell? (an.add j) = some (.string sj)) (go_keep) (fail)
                              go_wp2
                              go_ret
                              exact ⟨⟨_, rfl, fun h => by cases h⟩, hbw5.drew⟩
                            · have hsm := seq_false hsame
                              have HL2 : Hid (∀ l', l' < l + 1 → S l' ≠ S j) := Lib.hid (fun l' hl' => by
                                by_cases hll : l' < l
                                · exact HL.out l' hll
                                · obtain rfl : l' = l := by omega
                                  rw [← HSl.out, ← HSe.out]
                                  exact hsame)
                              clear hsame
                              go_wp2_with fail
                              go_region_held3 (fun w' => w'.cell? ⟨(a.add (k * 4)).block, (a.add (k * 4)).off + 2, none⟩ = some (.slice (some an) n nc) ∧ w'.cell? (an.add l) = some (.string sl) ∧ w'.cell? (an.add j) = some (.string sj)) (go_keep) (fail)
                              go_wp2
                              go_roundw
                              case rel => exact ⟨l + 1, by omega, by go_num, HH.out.later _ _ HT5.out ((Below.refl _ _).drew), hb5.drew, HL2⟩
                              case measure => first | (simp [intOf]; done) | (simp [intOf]; omega)
                          · obtain rfl : l = j := by omega
                            have HI3 := Lib.hid (HI2.out HL.out)
                            go_wp2
                            go_roundw
                            case rel => exact ⟨l + 1, by omega, by go_num, HT5.out, below_step (Nat.le_refl _) hb14 hb5, HI3⟩
                            case measure => first | (simp [intOf]; done) | (simp [intOf]; omega)
                  · have hc0 : ¬ hh = 0 := fun h => hcode (.inl h)
                    have hc1 : ¬ hh = 1 := fun h => hcode (.inr (.inl h))
                    have hc2 : ¬ hh = 2 := fun h => hcode (.inr (.inr h))
                    clear hcode
                    go_wp2
                    go_ret
                    exact ⟨⟨_, rfl, fun h => by cases h⟩, hbw3⟩
                · obtain rfl : j = n := by omega
                  have HJ2 : Hid (∀ j, j < k + 1 → RightP (P j)) := Lib.hid (fun j' hj' => by
                    by_cases hjk : j' < k
                    · exact HJ.out j' hjk
                    · obtain rfl : j' = k := by omega
                      rw [← HE.out]
                      exact ⟨rfl, ⟨hnk, fun h => absurd h (by simp [spP]), fun i hi => (HI.out i hi).1, fun a b hab ha h => (HI.out a ha).2 b hab (ByteArray.ext (Array.toList_inj.1 h))⟩⟩)
                  go_wp2
                  go_roundw
                  case rel => exact ⟨k + 1, by omega, by go_num, HT3.out, hbw3, HJ2⟩
                  case measure => first | (simp [intOf]; done) | (simp [intOf]; omega)
          · have hre2 : rem.toList.isEmpty = false := by
              cases hx : rem.toList.isEmpty with
              | false => rfl
              | true => exact absurd (bytes_nil hx) hre
            go_wp2_with fail
            refine held_begin (S := fun w' => w'.cell? (a.add (k * 4)) = some (.bool false) ∧ w'.cell? ⟨(a.add (k * 4)).block, (a.add (k * 4)).off + 1, none⟩ = some (.string rem) ∧ w'.cell? ⟨(a.add (k * 4)).block, (a.add (k * 4)).off + 2, none⟩ = some (.slice na n nc) ∧ w'.cell? ⟨(a.add (k * 4)).block, (a.add (k * 4)).off + 3, none⟩ = some (.slice ha n hc)) 54 (by rfl) (by kernel_rfl) ?_ (fun hHeld => ?_)
            · exact ⟨by simpa using q0, by simpa using q1, by simpa using q2, by simpa using q3⟩
            refine held_take 0 (some 13) (v := ?_) rfl rfl (by kernel_rfl) (by kernel_rfl) (by kernel_rfl) (fun _ _ _ _ h => h) (by kernel_rfl) ?_ hHeld ?_
            rotate_left 1
            · intro w hSw; (try dsimp only at hSw); go_simp; (try with_reducible rfl)
            try simp only [List.foldl_cons, List.foldl_nil, List.length_cons, List.length_nil, Act.put, List.setIfInBounds_toArray, List.set_cons_zero, List.set_cons_succ]
            refine held_take 1 (some 14) (v := ?_) rfl rfl (by kernel_rfl) (by kernel_rfl) (by kernel_rfl) (fun _ _ _ _ h => h) (by kernel_rfl) ?_ hHeld ?_
            rotate_left 1
            · intro w hSw; (try dsimp only at hSw); go_simp; (try with_reducible rfl)
            try simp only [List.foldl_cons, List.foldl_nil, List.length_cons, List.length_nil, Act.put, List.setIfInBounds_toArray, List.set_cons_zero, List.set_cons_succ]
            refine held_take 2 (some 15) (v := ?_) rfl rfl (by kernel_rfl) (by kernel_rfl) (by kernel_rfl) (fun _ _ _ _ h => h) (by kernel_rfl) ?_ hHeld ?_
            rotate_left 1
            · intro w hSw; (try dsimp only at hSw); go_simp; (try with_reducible rfl)
            try simp only [List.foldl_cons, List.foldl_nil, List.length_cons, List.length_nil, Act.put, List.setIfInBounds_toArray, List.set_cons_zero, List.set_cons_succ]
            refine held_take 3 (some 16) (v := ?_) rfl rfl (by kernel_rfl) (by kernel_rfl) (by kernel_rfl) (fun _ _ _ _ h => h) (by kernel_rfl) ?_ hHeld ?_
            rotate_left 1
            · intro w hSw; (try dsimp only at hSw); go_simp; (try with_reducible rfl)
            try simp only [List.foldl_cons, List.foldl_nil, List.length_cons, List.length_nil, Act.put, List.setIfInBounds_toArray, List.set_cons_zero, List.set_cons_succ]
            refine held_take 4 (some 17) (v := ?_) rfl rfl (by kernel_rfl) (by kernel_rfl) (by kernel_rfl) (fun _ _ _ _ h => h) (by kernel_rfl) ?_ hHeld ?_
            rotate_left 1
            · intro w hSw; (try dsimp only at hSw); go_simp; (try with_reducible rfl)
            try simp only [List.foldl_cons, List.foldl_nil, List.length_cons, List.length_nil, Act.put, List.setIfInBounds_toArray, List.set_cons_zero, List.set_cons_succ]
            refine held_take 5 (some 18) (v := ?_) rfl rfl (by kernel_rfl) (by kernel_rfl) (by kernel_rfl) (fun _ _ _ _ h => h) (by kernel_rfl) ?_ hHeld ?_
            rotate_left 1
            · intro w hSw; (try dsimp only at hSw); go_simp; (try with_reducible rfl)
            try simp only [List.foldl_cons, List.foldl_nil, List.length_cons, List.length_nil, Act.put, List.setIfInBounds_toArray, List.set_cons_zero, List.set_cons_succ]
            refine held_take 6 (some 19) (v := ?_) rfl rfl (by kernel_rfl) (by kernel_rfl) (by kernel_rfl) (fun _ _ _ _ h => h) (by kernel_rfl) ?_ hHeld ?_
            rotate_left 1
            · intro w hSw; (try dsimp only at hSw); go_simp; (try with_reducible rfl)
            try simp only [List.foldl_cons, List.foldl_nil, List.length_cons, List.length_nil, Act.put, List.setIfInBounds_toArray, List.set_cons_zero, List.set_cons_succ]
            refine held_take 7 (some 20) (v := ?_) rfl rfl (by kernel_rfl) (by kernel_rfl) (by kernel_rfl) (fun _ _ _ _ h => h) (by kernel_rfl) ?_ hHeld ?_
            rotate_left 1
            · intro w hSw; (try dsimp only at hSw); go_simp; (try with_reducible rfl)
            try simp only [List.foldl_cons, List.foldl_nil, List.length_cons, List.length_nil, Act.put, List.setIfInBounds_toArray, List.set_cons_zero, List.set_cons_succ]
            refine held_take 8 (some 21) (v := ?_) rfl rfl (by kernel_rfl) (by kernel_rfl) (by kernel_rfl) (fun _ _ _ _ h => h) (by kernel_rfl) ?_ hHeld ?_
            rotate_left 1
            · intro w hSw; (try dsimp only at hSw); go_simp; (try with_reducible rfl)
            try simp only [List.foldl_cons, List.foldl_nil, List.length_cons, List.length_nil, Act.put, List.setIfInBounds_toArray, List.set_cons_zero, List.set_cons_succ]
            refine held_take 9 (some 22) (v := ?_) rfl rfl (by kernel_rfl) (by kernel_rfl) (by kernel_rfl) (fun _ _ _ _ h => h) (by kernel_rfl) ?_ hHeld ?_
            rotate_left 1
            · intro w hSw; (try dsimp only at hSw); go_simp; (try with_reducible rfl)
            try simp only [List.foldl_cons, List.foldl_nil, List.length_cons, List.length_nil, Act.put, List.setIfInBounds_toArray, List.set_cons_zero, List.set_cons_succ]
            refine held_take 10 (some 23) (v := ?_) rfl rfl (by kernel_rfl) (by kernel_rfl) (by kernel_rfl) (fun _ _ _ _ h => h) (by kernel_rfl) ?_ hHeld ?_
            rotate_left 1
            · intro w hSw; (try dsimp only at hSw); go_simp; (try with_reducible rfl)
            try simp only [List.foldl_cons, List.foldl_nil, List.length_cons, List.length_nil, Act.put, List.setIfInBounds_toArray, List.set_cons_zero, List.set_cons_succ]
            refine held_take 11 (some 24) (v := ?_) rfl rfl (by kernel_rfl) (by kernel_rfl) (by kernel_rfl) (fun _ _ _ _ h => h) (by kernel_rfl) ?_ hHeld ?_
            rotate_left 1
            · intro w hSw; (try dsimp only at hSw); go_simp; (try with_reducible rfl)
            try simp only [List.foldl_cons, List.foldl_nil, List.length_cons, List.length_nil, Act.put, List.setIfInBounds_toArray, List.set_cons_zero, List.set_cons_succ]
            refine held_take 12 (some 25) (v := ?_) rfl rfl (by kernel_rfl) (by kernel_rfl) (by kernel_rfl) (fun _ _ _ _ h => h) (by kernel_rfl) ?_ hHeld ?_
            rotate_left 1
            · intro w hSw; (try dsimp only at hSw); go_simp; (try with_reducible rfl)
            try simp only [List.foldl_cons, List.foldl_nil, List.length_cons, List.length_nil, Act.put, List.setIfInBounds_toArray, List.set_cons_zero, List.set_cons_succ]
            refine held_take 13 (some 26) (v := ?_) rfl rfl (by kernel_rfl) (by kernel_rfl) (by kernel_rfl) (fun _ _ _ _ h => h) (by kernel_rfl) ?_ hHeld ?_
            rotate_left 1
            · intro w hSw; (try dsimp only at hSw); go_simp; (try with_reducible rfl)
            try simp only [List.foldl_cons, List.foldl_nil, List.length_cons, List.length_nil, Act.put, List.setIfInBounds_toArray, List.set_cons_zero, List.set_cons_succ]
            refine held_take 14 (some 27) (v := ?_) rfl rfl (by kernel_rfl) (by kernel_rfl) (by kernel_rfl) (fun _ _ _ _ h => h) (by kernel_rfl) ?_ hHeld ?_
            rotate_left 1
            · intro w hSw; (try dsimp only at hSw); go_simp; (try with_reducible rfl)
            try simp only [List.foldl_cons, List.foldl_nil, List.length_cons, List.length_nil, Act.put, List.setIfInBounds_toArray, List.set_cons_zero, List.set_cons_succ]
            refine held_take 15 (some 28) (v := ?_) rfl rfl (by kernel_rfl) (by kernel_rfl) (by kernel_rfl) (fun _ _ _ _ h => h) (by kernel_rfl) ?_ hHeld ?_
            rotate_left 1
            · intro w hSw; (try dsimp only at hSw); go_simp; (try with_reducible rfl)
            try simp only [List.foldl_cons, List.foldl_nil, List.length_cons, List.length_nil, Act.put, List.setIfInBounds_toArray, List.set_cons_zero, List.set_cons_succ]
            refine held_take 16 (some 29) (v := ?_) rfl rfl (by kernel_rfl) (by kernel_rfl) (by kernel_rfl) (fun _ _ _ _ h => h) (by kernel_rfl) ?_ hHeld ?_
            rotate_left 1
            · intro w hSw; (try dsimp only at hSw); go_simp; (try with_reducible rfl)
            try simp only [List.foldl_cons, List.foldl_nil, List.length_cons, List.length_nil, Act.put, List.setIfInBounds_toArray, List.set_cons_zero, List.set_cons_succ]
            refine held_take 17 (some 30) (v := ?_) rfl rfl (by kernel_rfl) (by kernel_rfl) (by kernel_rfl) (fun _ _ _ _ h => h) (by kernel_rfl) ?_ hHeld ?_
            rotate_left 1
            · intro w hSw; (try dsimp only at hSw); go_simp; (try with_reducible rfl)
            try simp only [List.foldl_cons, List.foldl_nil, List.length_cons, List.length_nil, Act.put, List.setIfInBounds_toArray, List.set_cons_zero, List.set_cons_succ]
            refine held_take 18 (some 31) (v := ?_) rfl rfl (by kernel_rfl) (by kernel_rfl) (by kernel_rfl) (fun _ _ _ _ h => h) (by kernel_rfl) ?_ hHeld ?_
            rotate_left 1
            · intro w hSw; (try dsimp only at hSw); go_simp; (try with_reducible rfl)
            try simp only [List.foldl_cons, List.foldl_nil, List.length_cons, List.length_nil, Act.put, List.setIfInBounds_toArray, List.set_cons_zero, List.set_cons_succ]
            refine held_take 19 (some 32) (v := ?_) rfl rfl (by kernel_rfl) (by kernel_rfl) (by kernel_rfl) (fun _ _ _ _ h => h) (by kernel_rfl) ?_ hHeld ?_
            rotate_left 1
            · intro w hSw; (try dsimp only at hSw); go_simp; (try with_reducible rfl)
            try simp only [List.foldl_cons, List.foldl_nil, List.length_cons, List.length_nil, Act.put, List.setIfInBounds_toArray, List.set_cons_zero, List.set_cons_succ]
            refine held_skips (fuel := 27) (by kernel_rfl) (fun _ _ _ _ h => h) [(20, some 33), (21, some 34), (22, some 35), (23, some 36), (24, some 37), (25, some 38), (26, some 39)] (by kernel_rfl) hHeld ?_
            try simp only [List.foldl_cons, List.foldl_nil, List.length_cons, List.length_nil, Act.put, List.setIfInBounds_toArray, List.set_cons_zero, List.set_cons_succ]
            refine held_take 27 (some 40) (v := ?_) rfl rfl (by kernel_rfl) (by kernel_rfl) (by kernel_rfl) (fun _ _ _ _ h => h) (by kernel_rfl) ?_ hHeld ?_
            rotate_left 1
            · intro w hSw; (try dsimp only at hSw); go_simp; (try with_reducible rfl)
            try simp only [List.foldl_cons, List.foldl_nil, List.length_cons, List.length_nil, Act.put, List.setIfInBounds_toArray, List.set_cons_zero, List.set_cons_succ]
            refine held_take 28 (some 41) (v := ?_) rfl rfl (by kernel_rfl) (by kernel_rfl) (by kernel_rfl) (fun _ _ _ _ h => h) (by kernel_rfl) ?_ hHeld ?_
            rotate_left 1
            · intro w hSw; (try dsimp only at hSw); go_simp; (try with_reducible rfl)
            try simp only [List.foldl_cons, List.foldl_nil, List.length_cons, List.length_nil, Act.put, List.setIfInBounds_toArray, List.set_cons_zero, List.set_cons_succ]
            refine held_take 29 (some 42) (v := ?_) rfl rfl (by kernel_rfl) (by kernel_rfl) (by kernel_rfl) (fun _ _ _ _ h => h) (by kernel_rfl) ?_ hHeld ?_
            rotate_left 1
            · intro w hSw; (try dsimp only at hSw); go_simp; (try with_reducible rfl)
            try simp only [List.foldl_cons, List.foldl_nil, List.length_cons, List.length_nil, Act.put, List.setIfInBounds_toArray, List.set_cons_zero, List.set_cons_succ]
            refine held_take 30 (some 43) (v := ?_) rfl rfl (by kernel_rfl) (by kernel_rfl) (by kernel_rfl) (fun _ _ _ _ h => h) (by kernel_rfl) ?_ hHeld ?_
            rotate_left 1
            · intro w hSw; (try dsimp only at hSw); go_simp; (try with_reducible rfl)
            try simp only [List.foldl_cons, List.foldl_nil, List.length_cons, List.length_nil, Act.put, List.setIfInBounds_toArray, List.set_cons_zero, List.set_cons_succ]
            refine held_take 31 (some 44) (v := ?_) rfl rfl (by kernel_rfl) (by kernel_rfl) (by kernel_rfl) (fun _ _ _ _ h => h) (by kernel_rfl) ?_ hHeld ?_
            rotate_left 1
            · intro w hSw; (try dsimp only at hSw); go_simp; (try with_reducible rfl)
            try simp only [List.foldl_cons, List.foldl_nil, List.length_cons, List.length_nil, Act.put, List.setIfInBounds_toArray, List.set_cons_zero, List.set_cons_succ]
            refine held_take 32 (some 45) (v := ?_) rfl rfl (by kernel_rfl) (by kernel_rfl) (by kernel_rfl) (fun _ _ _ _ h => h) (by kernel_rfl) ?_ hHeld ?_
            rotate_left 1
            · intro w hSw; (try dsimp only at hSw); go_simp; (try with_reducible rfl)
            try simp only [List.foldl_cons, List.foldl_nil, List.length_cons, List.length_nil, Act.put, List.setIfInBounds_toArray, List.set_cons_zero, List.set_cons_succ]
            refine held_take 33 (some 46) (v := ?_) rfl rfl (by kernel_rfl) (by kernel_rfl) (by kernel_rfl) (fun _ _ _ _ h => h) (by kernel_rfl) ?_ hHeld ?_
            rotate_left 1
            · intro w hSw; (try dsimp only at hSw); go_simp; (try with_reducible rfl)
            try simp only [List.foldl_cons, List.foldl_nil, List.length_cons, List.length_nil, Act.put, List.setIfInBounds_toArray, List.set_cons_zero, List.set_cons_succ]
            refine held_take 34 (some 47) (v := ?_) rfl rfl (by kernel_rfl) (by kernel_rfl) (by kernel_rfl) (fun _ _ _ _ h => h) (by kernel_rfl) ?_ hHeld ?_
            rotate_left 1
            · intro w hSw; (try dsimp only at hSw); go_simp; (try with_reducible rfl)
            try simp only [List.foldl_cons, List.foldl_nil, List.length_cons, List.length_nil, Act.put, List.setIfInBounds_toArray, List.set_cons_zero, List.set_cons_succ]
            refine held_take 35 (some 48) (v := ?_) rfl rfl (by kernel_rfl) (by kernel_rfl) (by kernel_rfl) (fun _ _ _ _ h => h) (by kernel_rfl) ?_ hHeld ?_
            rotate_left 1
            · intro w hSw; (try dsimp only at hSw); go_simp; (try with_reducible rfl)
            try simp only [List.foldl_cons, List.foldl_nil, List.length_cons, List.length_nil, Act.put, List.setIfInBounds_toArray, List.set_cons_zero, List.set_cons_succ]
            refine held_take 36 (some 49) (v := ?_) rfl rfl (by kernel_rfl) (by kernel_rfl) (by kernel_rfl) (fun _ _ _ _ h => h) (by kernel_rfl) ?_ hHeld ?_
            rotate_left 1
            · intro w hSw; (try dsimp only at hSw); go_simp; (try with_reducible rfl)
            try simp only [List.foldl_cons, List.foldl_nil, List.length_cons, List.length_nil, Act.put, List.setIfInBounds_toArray, List.set_cons_zero, List.set_cons_succ]
            refine held_take 37 (some 50) (v := ?_) rfl rfl (by kernel_rfl) (by kernel_rfl) (by kernel_rfl) (fun _ _ _ _ h => h) (by kernel_rfl) ?_ hHeld ?_
            rotate_left 1
            · intro w hSw; (try dsimp only at hSw); go_simp; (try with_reducible rfl)
            try simp only [List.foldl_cons, List.foldl_nil, List.length_cons, List.length_nil, Act.put, List.setIfInBounds_toArray, List.set_cons_zero, List.set_cons_succ]
            refine held_take 38 (some 51) (v := ?_) rfl rfl (by kernel_rfl) (by kernel_rfl) (by kernel_rfl) (fun _ _ _ _ h => h) (by kernel_rfl) ?_ hHeld ?_
            rotate_left 1
            · intro w hSw; (try dsimp only at hSw); go_simp; (try with_reducible rfl)
            try simp only [List.foldl_cons, List.foldl_nil, List.length_cons, List.length_nil, Act.put, List.setIfInBounds_toArray, List.set_cons_zero, List.set_cons_succ]
            refine held_take 39 (some 52) (v := ?_) rfl rfl (by kernel_rfl) (by kernel_rfl) (by kernel_rfl) (fun _ _ _ _ h => h) (by kernel_rfl) ?_ hHeld ?_
            rotate_left 1
            · intro w hSw; (try dsimp only at hSw); go_simp; (try with_reducible rfl)
            try simp only [List.foldl_cons, List.foldl_nil, List.length_cons, List.length_nil, Act.put, List.setIfInBounds_toArray, List.set_cons_zero, List.set_cons_succ]
            refine held_take 40 (some 53) (v := ?_) rfl rfl (by kernel_rfl) (by kernel_rfl) (by kernel_rfl) (fun _ _ _ _ h => h) (by kernel_rfl) ?_ hHeld ?_
            rotate_left 1
            · intro w hSw; (try dsimp only at hSw); go_simp; (try with_reducible rfl)
            try simp only [List.foldl_cons, List.foldl_nil, List.length_cons, List.length_nil, Act.put, List.setIfInBounds_toArray, List.set_cons_zero, List.set_cons_succ]
            refine held_take 41 (some 54) (v := ?_) rfl rfl (by kernel_rfl) (by kernel_rfl) (by kernel_rfl) (fun _ _ _ _ h => h) (by kernel_rfl) ?_ hHeld ?_
            rotate_left 1
            · intro w hSw; (try dsimp only at hSw); go_simp; (try with_reducible rfl)
            try simp only [List.foldl_cons, List.foldl_nil, List.length_cons, List.length_nil, Act.put, List.setIfInBounds_toArray, List.set_cons_zero, List.set_cons_succ]
            refine held_take 42 (some 55) (v := ?_) rfl rfl (by kernel_rfl) (by kernel_rfl) (by kernel_rfl) (fun _ _ _ _ h => h) (by kernel_rfl) ?_ hHeld ?_
            rotate_left 1
            · intro w hSw; (try dsimp only at hSw); go_simp; (try with_reducible rfl)
            try simp only [List.foldl_cons, List.foldl_nil, List.length_cons, List.length_nil, Act.put, List.setIfInBounds_toArray, List.set_cons_zero, List.set_cons_succ]
            refine held_take 43 (some 56) (v := ?_) rfl rfl (by kernel_rfl) (by kernel_rfl) (by kernel_rfl) (fun _ _ _ _ h => h) (by kernel_rfl) ?_ hHeld ?_
            rotate_left 1
            · intro w hSw; (try dsimp only at hSw); go_simp; (try with_reducible rfl)
            try simp only [List.foldl_cons, List.foldl_nil, List.length_cons, List.length_nil, Act.put, List.setIfInBounds_toArray, List.set_cons_zero, List.set_cons_succ]
            refine held_take 44 (some 57) (v := ?_) rfl rfl (by kernel_rfl) (by kernel_rfl) (by kernel_rfl) (fun _ _ _ _ h => h) (by kernel_rfl) ?_ hHeld ?_
            rotate_left 1
            · intro w hSw; (try dsimp only at hSw); go_simp; (try with_reducible rfl)
            try simp only [List.foldl_cons, List.foldl_nil, List.length_cons, List.length_nil, Act.put, List.setIfInBounds_toArray, List.set_cons_zero, List.set_cons_succ]
            refine held_take 45 (some 58) (v := ?_) rfl rfl (by kernel_rfl) (by kernel_rfl) (by kernel_rfl) (fun _ _ _ _ h => h) (by kernel_rfl) ?_ hHeld ?_
            rotate_left 1
            · intro w hSw; (try dsimp only at hSw); go_simp; (try with_reducible rfl)
            try simp only [List.foldl_cons, List.foldl_nil, List.length_cons, List.length_nil, Act.put, List.setIfInBounds_toArray, List.set_cons_zero, List.set_cons_succ]
            refine held_skips (fuel := 1) (by kernel_rfl) (fun _ _ _ _ h => h) [(46, some 59), (47, some 60), (48, some 61), (49, some 62), (50, some 63), (51, some 64), (52, some 65)] (by kernel_rfl) hHeld ?_
            try simp only [List.foldl_cons, List.foldl_nil, List.length_cons, List.length_nil, Act.put, List.setIfInBounds_toArray, List.set_cons_zero, List.set_cons_succ]
            refine held_take 53 (some 66) (v := ?_) rfl rfl (by kernel_rfl) (by kernel_rfl) (by kernel_rfl) (fun _ _ _ _ h => h) (by kernel_rfl) ?_ hHeld ?_
            rotate_left 1
            · intro w hSw; (try dsimp only at hSw); go_simp; (try with_reducible rfl)
            try simp only [List.foldl_cons, List.foldl_nil, List.length_cons, List.length_nil, Act.put, List.setIfInBounds_toArray, List.set_cons_zero, List.set_cons_succ]
            refine wpAnyH_done (by kernel_rfl) ?_ _
            go_wp2
            go_ret
            exact ⟨⟨_, rfl, fun h => by cases h⟩, hbd⟩
        · by_cases hn0 : n = 0
          · subst hn0
            cases HV : Lib.validD rem.data.toList
            · go_wp2_with fail
              refine held_begin (S := fun w' => w'.cell? (a.add (k * 4)) = some (.bool true) ∧ w'.cell? ⟨(a.add (k * 4)).block, (a.add (k * 4)).off + 1, none⟩ = some (.string rem) ∧ w'.cell? ⟨(a.add (k * 4)).block, (a.add (k * 4)).off + 2, none⟩ = some (.slice na 0 nc) ∧ w'.cell? ⟨(a.add (k * 4)).block, (a.add (k * 4)).off + 3, none⟩ = some (.slice ha 0 hc)) 54 (by rfl) (by kernel_rfl) ?_ (fun hHeld => ?_)
              · exact ⟨by simpa using q0, by simpa using q1, by simpa using q2, by simpa using q3⟩
              refine held_take 0 (some 13) (v := ?_) rfl rfl (by kernel_rfl) (by kernel_rfl) (by kernel_rfl) (fun _ _ _ _ h => h) (by kernel_rfl) ?_ hHeld ?_
              rotate_left 1
              · intro w hSw; (try dsimp only at hSw); go_simp; (try with_reducible rfl)
              try simp only [List.foldl_cons, List.foldl_nil, List.length_cons, List.length_nil, Act.put, List.setIfInBounds_toArray, List.set_cons_zero, List.set_cons_succ]
              refine held_take 1 (some 14) (v := ?_) rfl rfl (by kernel_rfl) (by kernel_rfl) (by kernel_rfl) (fun _ _ _ _ h => h) (by kernel_rfl) ?_ hHeld ?_
              rotate_left 1
              · intro w hSw; (try dsimp only at hSw); go_simp; (try with_reducible rfl)
              try simp only [List.foldl_cons, List.foldl_nil, List.length_cons, List.length_nil, Act.put, List.setIfInBounds_toArray, List.set_cons_zero, List.set_cons_succ]
              refine held_take 2 (some 15) (v := ?_) rfl rfl (by kernel_rfl) (by kernel_rfl) (by kernel_rfl) (fun _ _ _ _ h => h) (by kernel_rfl) ?_ hHeld ?_
              rotate_left 1
              · intro w hSw; (try dsimp only at hSw); go_simp; (try with_reducible rfl)
              try simp only [List.foldl_cons, List.foldl_nil, List.length_cons, List.length_nil, Act.put, List.setIfInBounds_toArray, List.set_cons_zero, List.set_cons_succ]
              refine held_take 3 (some 16) (v := ?_) rfl rfl (by kernel_rfl) (by kernel_rfl) (by kernel_rfl) (fun _ _ _ _ h => h) (by kernel_rfl) ?_ hHeld ?_
              rotate_left 1
              · intro w hSw; (try dsimp only at hSw); go_simp; (try with_reducible rfl)
              try simp only [List.foldl_cons, List.foldl_nil, List.length_cons, List.length_nil, Act.put, List.setIfInBounds_toArray, List.set_cons_zero, List.set_cons_succ]
              refine held_take 4 (some 17) (v := ?_) rfl rfl (by kernel_rfl) (by kernel_rfl) (by kernel_rfl) (fun _ _ _ _ h => h) (by kernel_rfl) ?_ hHeld ?_
              rotate_left 1
              · intro w hSw; (try dsimp only at hSw); go_simp; (try with_reducible rfl)
              try simp only [List.foldl_cons, List.foldl_nil, List.length_cons, List.length_nil, Act.put, List.setIfInBounds_toArray, List.set_cons_zero, List.set_cons_succ]
              refine held_take 5 (some 18) (v := ?_) rfl rfl (by kernel_rfl) (by kernel_rfl) (by kernel_rfl) (fun _ _ _ _ h => h) (by kernel_rfl) ?_ hHeld ?_
              rotate_left 1
              · intro w hSw; (try dsimp only at hSw); go_simp; (try with_reducible rfl)
              try simp only [List.foldl_cons, List.foldl_nil, List.length_cons, List.length_nil, Act.put, List.setIfInBounds_toArray, List.set_cons_zero, List.set_cons_succ]
              refine held_take 6 (some 19) (v := ?_) rfl rfl (by kernel_rfl) (by kernel_rfl) (by kernel_rfl) (fun _ _ _ _ h => h) (by kernel_rfl) ?_ hHeld ?_
              rotate_left 1
              · intro w hSw; (try dsimp only at hSw); go_simp; (try with_reducible rfl)
              try simp only [List.foldl_cons, List.foldl_nil, List.length_cons, List.length_nil, Act.put, List.setIfInBounds_toArray, List.set_cons_zero, List.set_cons_succ]
              refine held_take 7 (some 20) (v := ?_) rfl rfl (by kernel_rfl) (by kernel_rfl) (by kernel_rfl) (fun _ _ _ _ h => h) (by kernel_rfl) ?_ hHeld ?_
              rotate_left 1
              · intro w hSw; (try dsimp only at hSw); go_simp; (try with_reducible rfl)
              try simp only [List.foldl_cons, List.foldl_nil, List.length_cons, List.length_nil, Act.put, List.setIfInBounds_toArray, List.set_cons_zero, List.set_cons_succ]
              refine held_take 8 (some 21) (v := ?_) rfl rfl (by kernel_rfl) (by kernel_rfl) (by kernel_rfl) (fun _ _ _ _ h => h) (by kernel_rfl) ?_ hHeld ?_
              rotate_left 1
              · intro w hSw; (try dsimp only at hSw); go_simp; (try with_reducible rfl)
              try simp only [List.foldl_cons, List.foldl_nil, List.length_cons, List.length_nil, Act.put, List.setIfInBounds_toArray, List.set_cons_zero, List.set_cons_succ]
              refine held_take 9 (some 22) (v := ?_) rfl rfl (by kernel_rfl) (by kernel_rfl) (by kernel_rfl) (fun _ _ _ _ h => h) (by kernel_rfl) ?_ hHeld ?_
              rotate_left 1
              · intro w hSw; (try dsimp only at hSw); go_simp; (try with_reducible rfl)
              try simp only [List.foldl_cons, List.foldl_nil, List.length_cons, List.length_nil, Act.put, List.setIfInBounds_toArray, List.set_cons_zero, List.set_cons_succ]
              refine held_take 10 (some 23) (v := ?_) rfl rfl (by kernel_rfl) (by kernel_rfl) (by kernel_rfl) (fun _ _ _ _ h => h) (by kernel_rfl) ?_ hHeld ?_
              rotate_left 1
              · intro w hSw; (try dsimp only at hSw); go_simp; (try with_reducible rfl)
              try simp only [List.foldl_cons, List.foldl_nil, List.length_cons, List.length_nil, Act.put, List.setIfInBounds_toArray, List.set_cons_zero, List.set_cons_succ]
              refine held_take 11 (some 24) (v := ?_) rfl rfl (by kernel_rfl) (by kernel_rfl) (by kernel_rfl) (fun _ _ _ _ h => h) (by kernel_rfl) ?_ hHeld ?_
              rotate_left 1
              · intro w hSw; (try dsimp only at hSw); go_simp; (try with_reducible rfl)
              try simp only [List.foldl_cons, List.foldl_nil, List.length_cons, List.length_nil, Act.put, List.setIfInBounds_toArray, List.set_cons_zero, List.set_cons_succ]
              refine held_take 12 (some 25) (v := ?_) rfl rfl (by kernel_rfl) (by kernel_rfl) (by kernel_rfl) (fun _ _ _ _ h => h) (by kernel_rfl) ?_ hHeld ?_
              rotate_left 1
              · intro w hSw; (try dsimp only at hSw); go_simp; (try with_reducible rfl)
              try simp only [List.foldl_cons, List.foldl_nil, List.length_cons, List.length_nil, Act.put, List.setIfInBounds_toArray, List.set_cons_zero, List.set_cons_succ]
              refine held_take 13 (some 26) (v := ?_) rfl rfl (by kernel_rfl) (by kernel_rfl) (by kernel_rfl) (fun _ _ _ _ h => h) (by kernel_rfl) ?_ hHeld ?_
              rotate_left 1
              · intro w hSw; (try dsimp only at hSw); go_simp; (try with_reducible rfl)
              try simp only [List.foldl_cons, List.foldl_nil, List.length_cons, List.length_nil, Act.put, List.setIfInBounds_toArray, List.set_cons_zero, List.set_cons_succ]
              refine held_take 14 (some 27) (v := ?_) rfl rfl (by kernel_rfl) (by kernel_rfl) (by kernel_rfl) (fun _ _ _ _ h => h) (by kernel_rfl) ?_ hHeld ?_
              rotate_left 1
              · intro w hSw; (try dsimp only at hSw); go_simp; (try with_reducible rfl)
              try simp only [List.foldl_cons, List.foldl_nil, List.length_cons, List.length_nil, Act.put, List.setIfInBounds_toArray, List.set_cons_zero, List.set_cons_succ]
              refine held_take 15 (some 28) (v := ?_) rfl rfl (by kernel_rfl) (by kernel_rfl) (by kernel_rfl) (fun _ _ _ _ h => h) (by kernel_rfl) ?_ hHeld ?_
              rotate_left 1
              · intro w hSw; (try dsimp only at hSw); go_simp; (try with_reducible rfl)
              try simp only [List.foldl_cons, List.foldl_nil, List.length_cons, List.length_nil, Act.put, List.setIfInBounds_toArray, List.set_cons_zero, List.set_cons_succ]
              refine held_take 16 (some 29) (v := ?_) rfl rfl (by kernel_rfl) (by kernel_rfl) (by kernel_rfl) (fun _ _ _ _ h => h) (by kernel_rfl) ?_ hHeld ?_
              rotate_left 1
              · intro w hSw; (try dsimp only at hSw); go_simp; (try with_reducible rfl)
              try simp only [List.foldl_cons, List.foldl_nil, List.length_cons, List.length_nil, Act.put, List.setIfInBounds_toArray, List.set_cons_zero, List.set_cons_succ]
              refine held_take 17 (some 30) (v := ?_) rfl rfl (by kernel_rfl) (by kernel_rfl) (by kernel_rfl) (fun _ _ _ _ h => h) (by kernel_rfl) ?_ hHeld ?_
              rotate_left 1
              · intro w hSw; (try dsimp only at hSw); go_simp; (try with_reducible rfl)
              try simp only [List.foldl_cons, List.foldl_nil, List.length_cons, List.length_nil, Act.put, List.setIfInBounds_toArray, List.set_cons_zero, List.set_cons_succ]
              refine held_take 18 (some 31) (v := ?_) rfl rfl (by kernel_rfl) (by kernel_rfl) (by kernel_rfl) (fun _ _ _ _ h => h) (by kernel_rfl) ?_ hHeld ?_
              rotate_left 1
              · intro w hSw; (try dsimp only at hSw); go_simp; (try with_reducible rfl)
              try simp only [List.foldl_cons, List.foldl_nil, List.length_cons, List.length_nil, Act.put, List.setIfInBounds_toArray, List.set_cons_zero, List.set_cons_succ]
              refine held_take 19 (some 32) (v := ?_) rfl rfl (by kernel_rfl) (by kernel_rfl) (by kernel_rfl) (fun _ _ _ _ h => h) (by kernel_rfl) ?_ hHeld ?_
              rotate_left 1
              · intro w hSw; (try dsimp only at hSw); go_simp; (try with_reducible rfl)
              try simp only [List.foldl_cons, List.foldl_nil, List.length_cons, List.length_nil, Act.put, List.setIfInBounds_toArray, List.set_cons_zero, List.set_cons_succ]
              refine held_take 20 (some 33) (v := ?_) rfl rfl (by kernel_rfl) (by kernel_rfl) (by kernel_rfl) (fun _ _ _ _ h => h) (by kernel_rfl) ?_ hHeld ?_
              rotate_left 1
              · intro w hSw; (try dsimp only at hSw); go_simp; (try with_reducible rfl)
              try simp only [List.foldl_cons, List.foldl_nil, List.length_cons, List.length_nil, Act.put, List.setIfInBounds_toArray, List.set_cons_zero, List.set_cons_succ]
              refine held_take 21 (some 34) (v := ?_) rfl rfl (by kernel_rfl) (by kernel_rfl) (by kernel_rfl) (fun _ _ _ _ h => h) (by kernel_rfl) ?_ hHeld ?_
              rotate_left 1
              · intro w hSw; (try dsimp only at hSw); go_simp; (try with_reducible rfl)
              try simp only [List.foldl_cons, List.foldl_nil, List.length_cons, List.length_nil, Act.put, List.setIfInBounds_toArray, List.set_cons_zero, List.set_cons_succ]
              refine held_take 22 (some 35) (v := ?_) rfl rfl (by kernel_rfl) (by kernel_rfl) (by kernel_rfl) (fun _ _ _ _ h => h) (by kernel_rfl) ?_ hHeld ?_
              rotate_left 1
              · intro w hSw; (try dsimp only at hSw); go_simp; (try with_reducible rfl)
              try simp only [List.foldl_cons, List.foldl_nil, List.length_cons, List.length_nil, Act.put, List.setIfInBounds_toArray, List.set_cons_zero, List.set_cons_succ]
              refine held_take 23 (some 36) (v := ?_) rfl rfl (by kernel_rfl) (by kernel_rfl) (by kernel_rfl) (fun _ _ _ _ h => h) (by kernel_rfl) ?_ hHeld ?_
              rotate_left 1
              · intro w hSw; (try dsimp only at hSw); go_simp; (try with_reducible rfl)
              try simp only [List.foldl_cons, List.foldl_nil, List.length_cons, List.length_nil, Act.put, List.setIfInBounds_toArray, List.set_cons_zero, List.set_cons_succ]
              refine held_take 24 (some 37) (v := ?_) rfl rfl (by kernel_rfl) (by kernel_rfl) (by kernel_rfl) (fun _ _ _ _ h => h) (by kernel_rfl) ?_ hHeld ?_
              rotate_left 1
              · intro w hSw; (try dsimp only at hSw); go_simp; (try with_reducible rfl)
              try simp only [List.foldl_cons, List.foldl_nil, List.length_cons, List.length_nil, Act.put, List.setIfInBounds_toArray, List.set_cons_zero, List.set_cons_succ]
              refine held_take 25 (some 38) (v := ?_) rfl rfl (by kernel_rfl) (by kernel_rfl) (by kernel_rfl) (fun _ _ _ _ h => h) (by kernel_rfl) ?_ hHeld ?_
              rotate_left 1
              · intro w hSw; (try dsimp only at hSw); go_simp; (try with_reducible rfl)
              try simp only [List.foldl_cons, List.foldl_nil, List.length_cons, List.length_nil, Act.put, List.setIfInBounds_toArray, List.set_cons_zero, List.set_cons_succ]
              refine held_take 26 (some 39) (v := ?_) rfl rfl (by kernel_rfl) (by kernel_rfl) (by kernel_rfl) (fun _ _ _ _ h => h) (by kernel_rfl) ?_ hHeld ?_
              rotate_left 1
              · intro w hSw; (try dsimp only at hSw); go_simp; (try with_reducible rfl)
              try simp only [List.foldl_cons, List.foldl_nil, List.length_cons, List.length_nil, Act.put, List.setIfInBounds_toArray, List.set_cons_zero, List.set_cons_succ]
              refine held_take 27 (some 40) (v := ?_) rfl rfl (by kernel_rfl) (by kernel_rfl) (by kernel_rfl) (fun _ _ _ _ h => h) (by kernel_rfl) ?_ hHeld ?_
              rotate_left 1
              · intro w hSw; (try dsimp only at hSw); go_simp; (try with_reducible rfl)
              try simp only [List.foldl_cons, List.foldl_nil, List.length_cons, List.length_nil, Act.put, List.setIfInBounds_toArray, List.set_cons_zero, List.set_cons_succ]
              refine held_take 28 (some 41) (v := ?_) rfl rfl (by kernel_rfl) (by kernel_rfl) (by kernel_rfl) (fun _ _ _ _ h => h) (by kernel_rfl) ?_ hHeld ?_
              rotate_left 1
              · intro w hSw; (try dsimp only at hSw); go_simp; (try with_reducible rfl)
              try simp only [List.foldl_cons, List.foldl_nil, List.length_cons, List.length_nil, Act.put, List.setIfInBounds_toArray, List.set_cons_zero, List.set_cons_succ]
              refine held_take 29 (some 42) (v := ?_) rfl rfl (by kernel_rfl) (by kernel_rfl) (by kernel_rfl) (fun _ _ _ _ h => h) (by kernel_rfl) ?_ hHeld ?_
              rotate_left 1
              · intro w hSw; (try dsimp only at hSw); go_simp; (try with_reducible rfl)
              try simp only [List.foldl_cons, List.foldl_nil, List.length_cons, List.length_nil, Act.put, List.setIfInBounds_toArray, List.set_cons_zero, List.set_cons_succ]
              refine held_take 30 (some 43) (v := ?_) rfl rfl (by kernel_rfl) (by kernel_rfl) (by kernel_rfl) (fun _ _ _ _ h => h) (by kernel_rfl) ?_ hHeld ?_
              rotate_left 1
              · intro w hSw; (try dsimp only at hSw); go_simp; (try with_reducible rfl)
              try simp only [List.foldl_cons, List.foldl_nil, List.length_cons, List.length_nil, Act.put, List.setIfInBounds_toArray, List.set_cons_zero, List.set_cons_succ]
              refine held_take 31 (some 44) (v := ?_) rfl rfl (by kernel_rfl) (by kernel_rfl) (by kernel_rfl) (fun _ _ _ _ h => h) (by kernel_rfl) ?_ hHeld ?_
              rotate_left 1
              · intro w hSw; (try dsimp only at hSw); go_simp; (try with_reducible rfl)
              try simp only [List.foldl_cons, List.foldl_nil, List.length_cons, List.length_nil, Act.put, List.setIfInBounds_toArray, List.set_cons_zero, List.set_cons_succ]
              refine held_take 32 (some 45) (v := ?_) rfl rfl (by kernel_rfl) (by kernel_rfl) (by kernel_rfl) (fun _ _ _ _ h => h) (by kernel_rfl) ?_ hHeld ?_
              rotate_left 1
              · intro w hSw; (try dsimp only at hSw); go_simp; (try with_reducible rfl)
              try simp only [List.foldl_cons, List.foldl_nil, List.length_cons, List.length_nil, Act.put, List.setIfInBounds_toArray, List.set_cons_zero, List.set_cons_succ]
              refine held_take 33 (some 46) (v := ?_) rfl rfl (by kernel_rfl) (by kernel_rfl) (by kernel_rfl) (fun _ _ _ _ h => h) (by kernel_rfl) ?_ hHeld ?_
              rotate_left 1
              · intro w hSw; (try dsimp only at hSw); go_simp; (try with_reducible rfl)
              try simp only [List.foldl_cons, List.foldl_nil, List.length_cons, List.length_nil, Act.put, List.setIfInBounds_toArray, List.set_cons_zero, List.set_cons_succ]
              refine held_take 34 (some 47) (v := ?_) rfl rfl (by kernel_rfl) (by kernel_rfl) (by kernel_rfl) (fun _ _ _ _ h => h) (by kernel_rfl) ?_ hHeld ?_
              rotate_left 1
              · intro w hSw; (try dsimp only at hSw); go_simp; (try with_reducible rfl)
              try simp only [List.foldl_cons, List.foldl_nil, List.length_cons, List.length_nil, Act.put, List.setIfInBounds_toArray, List.set_cons_zero, List.set_cons_succ]
              refine held_take 35 (some 48) (v := ?_) rfl rfl (by kernel_rfl) (by kernel_rfl) (by kernel_rfl) (fun _ _ _ _ h => h) (by kernel_rfl) ?_ hHeld ?_
              rotate_left 1
              · intro w hSw; (try dsimp only at hSw); go_simp; (try with_reducible rfl)
              try simp only [List.foldl_cons, List.foldl_nil, List.length_cons, List.length_nil, Act.put, List.setIfInBounds_toArray, List.set_cons_zero, List.set_cons_succ]
              refine held_take 36 (some 49) (v := ?_) rfl rfl (by kernel_rfl) (by kernel_rfl) (by kernel_rfl) (fun _ _ _ _ h => h) (by kernel_rfl) ?_ hHeld ?_
              rotate_left 1
              · intro w hSw; (try dsimp only at hSw); go_simp; (try with_reducible rfl)
              try simp only [List.foldl_cons, List.foldl_nil, List.length_cons, List.length_nil, Act.put, List.setIfInBounds_toArray, List.set_cons_zero, List.set_cons_succ]
              refine held_skips (fuel := 11) (by kernel_rfl) (fun _ _ _ _ h => h) [(37, some 50), (38, some 51), (39, some 52), (40, some 53), (41, some 54), (42, some 55)] (by kernel_rfl) hHeld ?_
              try simp only [List.foldl_cons, List.foldl_nil, List.length_cons, List.length_nil, Act.put, List.setIfInBounds_toArray, List.set_cons_zero, List.set_cons_succ]
              refine held_take 43 (some 56) (v := ?_) rfl rfl (by kernel_rfl) (by kernel_rfl) (by kernel_rfl) (fun _ _ _ _ h => h) (by kernel_rfl) ?_ hHeld ?_
              rotate_left 1
              · intro w hSw; (try dsimp only at hSw); go_simp; (try with_reducible rfl)
              try simp only [List.foldl_cons, List.foldl_nil, List.length_cons, List.length_nil, Act.put, List.setIfInBounds_toArray, List.set_cons_zero, List.set_cons_succ]
              refine held_take 44 (some 57) (v := ?_) rfl rfl (by kernel_rfl) (by kernel_rfl) (by kernel_rfl) (fun _ _ _ _ h => h) (by kernel_rfl) ?_ hHeld ?_
              rotate_left 1
              · intro w hSw; (try dsimp only at hSw); go_simp; (try with_reducible rfl)
              try simp only [List.foldl_cons, List.foldl_nil, List.length_cons, List.length_nil, Act.put, List.setIfInBounds_toArray, List.set_cons_zero, List.set_cons_succ]
              refine held_take 45 (some 58) (v := ?_) rfl rfl (by kernel_rfl) (by kernel_rfl) (by kernel_rfl) (fun _ _ _ _ h => h) (by kernel_rfl) ?_ hHeld ?_
              rotate_left 1
              · intro w hSw; (try dsimp only at hSw); go_simp; (try with_reducible rfl)
              try simp only [List.foldl_cons, List.foldl_nil, List.length_cons, List.length_nil, Act.put, List.setIfInBounds_toArray, List.set_cons_zero, List.set_cons_succ]
              refine held_take 46 (some 59) (v := ?_) rfl rfl (by kernel_rfl) (by kernel_rfl) (by kernel_rfl) (fun _ _ _ _ h => h) (by kernel_rfl) ?_ hHeld ?_
              rotate_left 1
              · intro w hSw; (try dsimp only at hSw); go_simp; (try with_reducible rfl)
              try simp only [List.foldl_cons, List.foldl_nil, List.length_cons, List.length_nil, Act.put, List.setIfInBounds_toArray, List.set_cons_zero, List.set_cons_succ]
              refine held_take 47 (some 60) (v := ?_) rfl rfl (by kernel_rfl) (by kernel_rfl) (by kernel_rfl) (fun _ _ _ _ h => h) (by kernel_rfl) ?_ hHeld ?_
              rotate_left 1
              · intro w hSw; (try dsimp only at hSw); go_simp; (try with_reducible rfl)
              try simp only [List.foldl_cons, List.foldl_nil, List.length_cons, List.length_nil, Act.put, List.setIfInBounds_toArray, List.set_cons_zero, List.set_cons_succ]
              refine held_take 48 (some 61) (v := ?_) rfl rfl (by kernel_rfl) (by kernel_rfl) (by kernel_rfl) (fun _ _ _ _ h => h) (by kernel_rfl) ?_ hHeld ?_
              rotate_left 1
              · intro w hSw; (try dsimp only at hSw); go_simp; (try with_reducible rfl)
              try simp only [List.foldl_cons, List.foldl_nil, List.length_cons, List.length_nil, Act.put, List.setIfInBounds_toArray, List.set_cons_zero, List.set_cons_succ]
              refine held_take 49 (some 62) (v := ?_) rfl rfl (by kernel_rfl) (by kernel_rfl) (by kernel_rfl) (fun _ _ _ _ h => h) (by kernel_rfl) ?_ hHeld ?_
              rotate_left 1
              · intro w hSw; (try dsimp only at hSw); go_simp; (try with_reducible rfl)
              try simp only [List.foldl_cons, List.foldl_nil, List.length_cons, List.length_nil, Act.put, List.setIfInBounds_toArray, List.set_cons_zero, List.set_cons_succ]
              refine held_take 50 (some 63) (v := ?_) rfl rfl (by kernel_rfl) (by kernel_rfl) (by kernel_rfl) (fun _ _ _ _ h => h) (by kernel_rfl) ?_ hHeld ?_
              rotate_left 1
              · intro w hSw; (try dsimp only at hSw); go_simp; (try with_reducible rfl)
              try simp only [List.foldl_cons, List.foldl_nil, List.length_cons, List.length_nil, Act.put, List.setIfInBounds_toArray, List.set_cons_zero, List.set_cons_succ]
              refine wpAnyH_ready (rs := [51]) (by kernel_rfl) (by simp) ?_
              refine AllReadyH.cons rfl (fun K hK => ?_) AllReadyH.nil
              go_simp
              (go_at_call 9; refine (HH.out.valid rem _ hrem HTd.out).mono ?_; rintro e w1 ⟨rfl, hb⟩; rw [HV])
              go_wp2_with fail
              have hOld := hHeld
              clear hHeld
              refine hK.out _ _ ?_ (fun hHeld => ?_)
              · exact ⟨cell_later hb hOld.1, cell_later hb hOld.2.1, cell_later hb hOld.2.2.1, cell_later hb hOld.2.2.2⟩
              clear hK K hOld
              try simp only [List.foldl_cons, List.foldl_nil, List.length_cons, List.length_nil, Act.put, List.setIfInBounds_toArray, List.set_cons_zero, List.set_cons_succ]
              refine held_take 52 (some 65) (v := ?_) rfl rfl (by kernel_rfl) (by kernel_rfl) (by kernel_rfl) (fun _ _ _ _ h => h) (by kernel_rfl) ?_ hHeld ?_
              rotate_left 1
              · intro w hSw; (try dsimp only at hSw); go_simp; (try with_reducible rfl)
              try simp only [List.foldl_cons, List.foldl_nil, List.length_cons, List.length_nil, Act.put, List.setIfInBounds_toArray, List.set_cons_zero, List.set_cons_succ]
              refine held_take 53 (some 66) (v := ?_) rfl rfl (by kernel_rfl) (by kernel_rfl) (by kernel_rfl) (fun _ _ _ _ h => h) (by kernel_rfl) ?_ hHeld ?_
              rotate_left 1
              · intro w hSw; (try dsimp only at hSw); go_simp; (try with_reducible rfl)
              try simp only [List.foldl_cons, List.foldl_nil, List.length_cons, List.length_nil, Act.put, List.setIfInBounds_toArray, List.set_cons_zero, List.set_cons_succ]
              refine wpAnyH_done (by kernel_rfl) ?_ _
              go_wp2
              go_ret
              exact ⟨⟨_, rfl, fun h => by cases h⟩, below_step (Nat.le_refl _) hbd hb⟩
            · have HJ2 : Hid (∀ j, j < k + 1 → RightP (P j)) := Lib.hid (fun j hj => by
                by_cases hjk : j < k
                · exact HJ.out j hjk
                · obtain rfl : j = k := by omega
                  rw [← HE.out]
                  exact ⟨rfl, ⟨by simp [spP], fun _ => rfl, fun i hi => absurd hi (by simp [spP]), fun i j _ hi => absurd hi (by simp [spP])⟩⟩)
              go_wp2_with fail
              refine held_begin (S := fun w' => w'.cell? (a.add (k * 4)) = some (.bool true) ∧ w'.cell? ⟨(a.add (k * 4)).block, (a.add (k * 4)).off + 1, none⟩ = some (.string rem) ∧ w'.cell? ⟨(a.add (k * 4)).block, (a.add (k * 4)).off + 2, none⟩ = some (.slice na 0 nc) ∧ w'.cell? ⟨(a.add (k * 4)).block, (a.add (k * 4)).off + 3, none⟩ = some (.slice ha 0 hc)) 54 (by rfl) (by kernel_rfl) ?_ (fun hHeld => ?_)
              · exact ⟨by simpa using q0, by simpa using q1, by simpa using q2, by simpa using q3⟩
              refine held_take 0 (some 13) (v := ?_) rfl rfl (by kernel_rfl) (by kernel_rfl) (by kernel_rfl) (fun _ _ _ _ h => h) (by kernel_rfl) ?_ hHeld ?_
              rotate_left 1
              · intro w hSw; (try dsimp only at hSw); go_simp; (try with_reducible rfl)
              try simp only [List.foldl_cons, List.foldl_nil, List.length_cons, List.length_nil, Act.put, List.setIfInBounds_toArray, List.set_cons_zero, List.set_cons_succ]
              refine held_take 1 (some 14) (v := ?_) rfl rfl (by kernel_rfl) (by kernel_rfl) (by kernel_rfl) (fun _ _ _ _ h => h) (by kernel_rfl) ?_ hHeld ?_
              rotate_left 1
              · intro w hSw; (try dsimp only at hSw); go_simp; (try with_reducible rfl)
              try simp only [List.foldl_cons, List.foldl_nil, List.length_cons, List.length_nil, Act.put, List.setIfInBounds_toArray, List.set_cons_zero, List.set_cons_succ]
              refine held_take 2 (some 15) (v := ?_) rfl rfl (by kernel_rfl) (by kernel_rfl) (by kernel_rfl) (fun _ _ _ _ h => h) (by kernel_rfl) ?_ hHeld ?_
              rotate_left 1
              · intro w hSw; (try dsimp only at hSw); go_simp; (try with_reducible rfl)
              try simp only [List.foldl_cons, List.foldl_nil, List.length_cons, List.length_nil, Act.put, List.setIfInBounds_toArray, List.set_cons_zero, List.set_cons_succ]
              refine held_take 3 (some 16) (v := ?_) rfl rfl (by kernel_rfl) (by kernel_rfl) (by kernel_rfl) (fun _ _ _ _ h => h) (by kernel_rfl) ?_ hHeld ?_
              rotate_left 1
              · intro w hSw; (try dsimp only at hSw); go_simp; (try with_reducible rfl)
              try simp only [List.foldl_cons, List.foldl_nil, List.length_cons, List.length_nil, Act.put, List.setIfInBounds_toArray, List.set_cons_zero, List.set_cons_succ]
              refine held_take 4 (some 17) (v := ?_) rfl rfl (by kernel_rfl) (by kernel_rfl) (by kernel_rfl) (fun _ _ _ _ h => h) (by kernel_rfl) ?_ hHeld ?_
              rotate_left 1
              · intro w hSw; (try dsimp only at hSw); go_simp; (try with_reducible rfl)
              try simp only [List.foldl_cons, List.foldl_nil, List.length_cons, List.length_nil, Act.put, List.setIfInBounds_toArray, List.set_cons_zero, List.set_cons_succ]
              refine held_take 5 (some 18) (v := ?_) rfl rfl (by kernel_rfl) (by kernel_rfl) (by kernel_rfl) (fun _ _ _ _ h => h) (by kernel_rfl) ?_ hHeld ?_
              rotate_left 1
              · intro w hSw; (try dsimp only at hSw); go_simp; (try with_reducible rfl)
              try simp only [List.foldl_cons, List.foldl_nil, List.length_cons, List.length_nil, Act.put, List.setIfInBounds_toArray, List.set_cons_zero, List.set_cons_succ]
              refine held_take 6 (some 19) (v := ?_) rfl rfl (by kernel_rfl) (by kernel_rfl) (by kernel_rfl) (fun _ _ _ _ h => h) (by kernel_rfl) ?_ hHeld ?_
              rotate_left 1
              · intro w hSw; (try dsimp only at hSw); go_simp; (try with_reducible rfl)
              try simp only [List.foldl_cons, List.foldl_nil, List.length_cons, List.length_nil, Act.put, List.setIfInBounds_toArray, List.set_cons_zero, List.set_cons_succ]
              refine held_take 7 (some 20) (v := ?_) rfl rfl (by kernel_rfl) (by kernel_rfl) (by kernel_rfl) (fun _ _ _ _ h => h) (by kernel_rfl) ?_ hHeld ?_
              rotate_left 1
              · intro w hSw; (try dsimp only at hSw); go_simp; (try with_reducible rfl)
              try simp only [List.foldl_cons, List.foldl_nil, List.length_cons, List.length_nil, Act.put, List.setIfInBounds_toArray, List.set_cons_zero, List.set_cons_succ]
              refine held_take 8 (some 21) (v := ?_) rfl rfl (by kernel_rfl) (by kernel_rfl) (by kernel_rfl) (fun _ _ _ _ h => h) (by kernel_rfl) ?_ hHeld ?_
              rotate_left 1
              · intro w hSw; (try dsimp only at hSw); go_simp; (try with_reducible rfl)
              try simp only [List.foldl_cons, List.foldl_nil, List.length_cons, List.length_nil, Act.put, List.setIfInBounds_toArray, List.set_cons_zero, List.set_cons_succ]
              refine held_take 9 (some 22) (v := ?_) rfl rfl (by kernel_rfl) (by kernel_rfl) (by kernel_rfl) (fun _ _ _ _ h => h) (by kernel_rfl) ?_ hHeld ?_
              rotate_left 1
              · intro w hSw; (try dsimp only at hSw); go_simp; (try with_reducible rfl)
              try simp only [List.foldl_cons, List.foldl_nil, List.length_cons, List.length_nil, Act.put, List.setIfInBounds_toArray, List.set_cons_zero, List.set_cons_succ]
              refine held_take 10 (some 23) (v := ?_) rfl rfl (by kernel_rfl) (by kernel_rfl) (by kernel_rfl) (fun _ _ _ _ h => h) (by kernel_rfl) ?_ hHeld ?_
              rotate_left 1
              · intro w hSw; (try dsimp only at hSw); go_simp; (try with_reducible rfl)
              try simp only [List.foldl_cons, List.foldl_nil, List.length_cons, List.length_nil, Act.put, List.setIfInBounds_toArray, List.set_cons_zero, List.set_cons_succ]
              refine held_take 11 (some 24) (v := ?_) rfl rfl (by kernel_rfl) (by kernel_rfl) (by kernel_rfl) (fun _ _ _ _ h => h) (by kernel_rfl) ?_ hHeld ?_
              rotate_left 1
              · intro w hSw; (try dsimp only at hSw); go_simp; (try with_reducible rfl)
              try simp only [List.foldl_cons, List.foldl_nil, List.length_cons, List.length_nil, Act.put, List.setIfInBounds_toArray, List.set_cons_zero, List.set_cons_succ]
              refine held_take 12 (some 25) (v := ?_) rfl rfl (by kernel_rfl) (by kernel_rfl) (by kernel_rfl) (fun _ _ _ _ h => h) (by kernel_rfl) ?_ hHeld ?_
              rotate_left 1
              · intro w hSw; (try dsimp only at hSw); go_simp; (try with_reducible rfl)
              try simp only [List.foldl_cons, List.foldl_nil, List.length_cons, List.length_nil, Act.put, List.setIfInBounds_toArray, List.set_cons_zero, List.set_cons_succ]
              refine held_take 13 (some 26) (v := ?_) rfl rfl (by kernel_rfl) (by kernel_rfl) (by kernel_rfl) (fun _ _ _ _ h => h) (by kernel_rfl) ?_ hHeld ?_
              rotate_left 1
              · intro w hSw; (try dsimp only at hSw); go_simp; (try with_reducible rfl)
              try simp only [List.foldl_cons, List.foldl_nil, List.length_cons, List.length_nil, Act.put, List.setIfInBounds_toArray, List.set_cons_zero, List.set_cons_succ]
              refine held_take 14 (some 27) (v := ?_) rfl rfl (by kernel_rfl) (by kernel_rfl) (by kernel_rfl) (fun _ _ _ _ h => h) (by kernel_rfl) ?_ hHeld ?_
              rotate_left 1
              · intro w hSw; (try dsimp only at hSw); go_simp; (try with_reducible rfl)
              try simp only [List.foldl_cons, List.foldl_nil, List.length_cons, List.length_nil, Act.put, List.setIfInBounds_toArray, List.set_cons_zero, List.set_cons_succ]
              refine held_take 15 (some 28) (v := ?_) rfl rfl (by kernel_rfl) (by kernel_rfl) (by kernel_rfl) (fun _ _ _ _ h => h) (by kernel_rfl) ?_ hHeld ?_
              rotate_left 1
              · intro w hSw; (try dsimp only at hSw); go_simp; (try with_reducible rfl)
              try simp only [List.foldl_cons, List.foldl_nil, List.length_cons, List.length_nil, Act.put, List.setIfInBounds_toArray, List.set_cons_zero, List.set_cons_succ]
              refine held_take 16 (some 29) (v := ?_) rfl rfl (by kernel_rfl) (by kernel_rfl) (by kernel_rfl) (fun _ _ _ _ h => h) (by kernel_rfl) ?_ hHeld ?_
              rotate_left 1
              · intro w hSw; (try dsimp only at hSw); go_simp; (try with_reducible rfl)
              try simp only [List.foldl_cons, List.foldl_nil, List.length_cons, List.length_nil, Act.put, List.setIfInBounds_toArray, List.set_cons_zero, List.set_cons_succ]
              refine held_take 17 (some 30) (v := ?_) rfl rfl (by kernel_rfl) (by kernel_rfl) (by kernel_rfl) (fun _ _ _ _ h => h) (by kernel_rfl) ?_ hHeld ?_
              rotate_left 1
              · intro w hSw; (try dsimp only at hSw); go_simp; (try with_reducible rfl)
              try simp only [List.foldl_cons, List.foldl_nil, List.length_cons, List.length_nil, Act.put, List.setIfInBounds_toArray, List.set_cons_zero, List.set_cons_succ]
              refine held_take 18 (some 31) (v := ?_) rfl rfl (by kernel_rfl) (by kernel_rfl) (by kernel_rfl) (fun _ _ _ _ h => h) (by kernel_rfl) ?_ hHeld ?_
              rotate_left 1
              · intro w hSw; (try dsimp only at hSw); go_simp; (try with_reducible rfl)
              try simp only [List.foldl_cons, List.foldl_nil, List.length_cons, List.length_nil, Act.put, List.setIfInBounds_toArray, List.set_cons_zero, List.set_cons_succ]
              refine held_take 19 (some 32) (v := ?_) rfl rfl (by kernel_rfl) (by kernel_rfl) (by kernel_rfl) (fun _ _ _ _ h => h) (by kernel_rfl) ?_ hHeld ?_
              rotate_left 1
              · intro w hSw; (try dsimp only at hSw); go_simp; (try with_reducible rfl)
              try simp only [List.foldl_cons, List.foldl_nil, List.length_cons, List.length_nil, Act.put, List.setIfInBounds_toArray, List.set_cons_zero, List.set_cons_succ]
              refine held_take 20 (some 33) (v := ?_) rfl rfl (by kernel_rfl) (by kernel_rfl) (by kernel_rfl) (fun _ _ _ _ h => h) (by kernel_rfl) ?_ hHeld ?_
              rotate_left 1
              · intro w hSw; (try dsimp only at hSw); go_simp; (try with_reducible rfl)
              try simp only [List.foldl_cons, List.foldl_nil, List.length_cons, List.length_nil, Act.put, List.setIfInBounds_toArray, List.set_cons_zero, List.set_cons_succ]
              refine held_take 21 (some 34) (v := ?_) rfl rfl (by kernel_rfl) (by kernel_rfl) (by kernel_rfl) (fun _ _ _ _ h => h) (by kernel_rfl) ?_ hHeld ?_
              rotate_left 1
              · intro w hSw; (try dsimp only at hSw); go_simp; (try with_reducible rfl)
              try simp only [List.foldl_cons, List.foldl_nil, List.length_cons, List.length_nil, Act.put, List.setIfInBounds_toArray, List.set_cons_zero, List.set_cons_succ]
              refine held_take 22 (some 35) (v := ?_) rfl rfl (by kernel_rfl) (by kernel_rfl) (by kernel_rfl) (fun _ _ _ _ h => h) (by kernel_rfl) ?_ hHeld ?_
              rotate_left 1
              · intro w hSw; (try dsimp only at hSw); go_simp; (try with_reducible rfl)
              try simp only [List.foldl_cons, List.foldl_nil, List.length_cons, List.length_nil, Act.put, List.setIfInBounds_toArray, List.set_cons_zero, List.set_cons_succ]
              refine held_take 23 (some 36) (v := ?_) rfl rfl (by kernel_rfl) (by kernel_rfl) (by kernel_rfl) (fun _ _ _ _ h => h) (by kernel_rfl) ?_ hHeld ?_
              rotate_left 1
              · intro w hSw; (try dsimp only at hSw); go_simp; (try with_reducible rfl)
              try simp only [List.foldl_cons, List.foldl_nil, List.length_cons, List.length_nil, Act.put, List.setIfInBounds_toArray, List.set_cons_zero, List.set_cons_succ]
              refine held_take 24 (some 37) (v := ?_) rfl rfl (by kernel_rfl) (by kernel_rfl) (by kernel_rfl) (fun _ _ _ _ h => h) (by kernel_rfl) ?_ hHeld ?_
              rotate_left 1
              · intro w hSw; (try dsimp only at hSw); go_simp; (try with_reducible rfl)
              try simp only [List.foldl_cons, List.foldl_nil, List.length_cons, List.length_nil, Act.put, List.setIfInBounds_toArray, List.set_cons_zero, List.set_cons_succ]
              refine held_take 25 (some 38) (v := ?_) rfl rfl (by kernel_rfl) (by kernel_rfl) (by kernel_rfl) (fun _ _ _ _ h => h) (by kernel_rfl) ?_ hHeld ?_
              rotate_left 1
              · intro w hSw; (try dsimp only at hSw); go_simp; (try with_reducible rfl)
              try simp only [List.foldl_cons, List.foldl_nil, List.length_cons, List.length_nil, Act.put, List.setIfInBounds_toArray, List.set_cons_zero, List.set_cons_succ]
              refine held_take 26 (some 39) (v := ?_) rfl rfl (by kernel_rfl) (by kernel_rfl) (by kernel_rfl) (fun _ _ _ _ h => h) (by kernel_rfl) ?_ hHeld ?_
              rotate_left 1
              · intro w hSw; (try dsimp only at hSw); go_simp; (try with_reducible rfl)
              try simp only [List.foldl_cons, List.foldl_nil, List.length_cons, List.length_nil, Act.put, List.setIfInBounds_toArray, List.set_cons_zero, List.set_cons_succ]
              refine held_take 27 (some 40) (v := ?_) rfl rfl (by kernel_rfl) (by kernel_rfl) (by kernel_rfl) (fun _ _ _ _ h => h) (by kernel_rfl) ?_ hHeld ?_
              rotate_left 1
              · intro w hSw; (try dsimp only at hSw); go_simp; (try with_reducible rfl)
              try simp only [List.foldl_cons, List.foldl_nil, List.length_cons, List.length_nil, Act.put, List.setIfInBounds_toArray, List.set_cons_zero, List.set_cons_succ]
              refine held_take 28 (some 41) (v := ?_) rfl rfl (by kernel_rfl) (by kernel_rfl) (by kernel_rfl) (fun _ _ _ _ h => h) (by kernel_rfl) ?_ hHeld ?_
              rotate_left 1
              · intro w hSw; (try dsimp only at hSw); go_simp; (try with_reducible rfl)
              try simp only [List.foldl_cons, List.foldl_nil, List.length_cons, List.length_nil, Act.put, List.setIfInBounds_toArray, List.set_cons_zero, List.set_cons_succ]
              refine held_take 29 (some 42) (v := ?_) rfl rfl (by kernel_rfl) (by kernel_rfl) (by kernel_rfl) (fun _ _ _ _ h => h) (by kernel_rfl) ?_ hHeld ?_
              rotate_left 1
              · intro w hSw; (try dsimp only at hSw); go_simp; (try with_reducible rfl)
              try simp only [List.foldl_cons, List.foldl_nil, List.length_cons, List.length_nil, Act.put, List.setIfInBounds_toArray, List.set_cons_zero, List.set_cons_succ]
              refine held_take 30 (some 43) (v := ?_) rfl rfl (by kernel_rfl) (by kernel_rfl) (by kernel_rfl) (fun _ _ _ _ h => h) (by kernel_rfl) ?_ hHeld ?_
              rotate_left 1
              · intro w hSw; (try dsimp only at hSw); go_simp; (try with_reducible rfl)
              try simp only [List.foldl_cons, List.foldl_nil, List.length_cons, List.length_nil, Act.put, List.setIfInBounds_toArray, List.set_cons_zero, List.set_cons_succ]
              refine held_take 31 (some 44) (v := ?_) rfl rfl (by kernel_rfl) (by kernel_rfl) (by kernel_rfl) (fun _ _ _ _ h => h) (by kernel_rfl) ?_ hHeld ?_
              rotate_left 1
              · intro w hSw; (try dsimp only at hSw); go_simp; (try with_reducible rfl)
              try simp only [List.foldl_cons, List.foldl_nil, List.length_cons, List.length_nil, Act.put, List.setIfInBounds_toArray, List.set_cons_zero, List.set_cons_succ]
              refine held_take 32 (some 45) (v := ?_) rfl rfl (by kernel_rfl) (by kernel_rfl) (by kernel_rfl) (fun _ _ _ _ h => h) (by kernel_rfl) ?_ hHeld ?_
              rotate_left 1
              · intro w hSw; (try dsimp only at hSw); go_simp; (try with_reducible rfl)
              try simp only [List.foldl_cons, List.foldl_nil, List.length_cons, List.length_nil, Act.put, List.setIfInBounds_toArray, List.set_cons_zero, List.set_cons_succ]
              refine held_take 33 (some 46) (v := ?_) rfl rfl (by kernel_rfl) (by kernel_rfl) (by kernel_rfl) (fun _ _ _ _ h => h) (by kernel_rfl) ?_ hHeld ?_
              rotate_left 1
              · intro w hSw; (try dsimp only at hSw); go_simp; (try with_reducible rfl)
              try simp only [List.foldl_cons, List.foldl_nil, List.length_cons, List.length_nil, Act.put, List.setIfInBounds_toArray, List.set_cons_zero, List.set_cons_succ]
              refine held_take 34 (some 47) (v := ?_) rfl rfl (by kernel_rfl) (by kernel_rfl) (by kernel_rfl) (fun _ _ _ _ h => h) (by kernel_rfl) ?_ hHeld ?_
              rotate_left 1
              · intro w hSw; (try dsimp only at hSw); go_simp; (try with_reducible rfl)
              try simp only [List.foldl_cons, List.foldl_nil, List.length_cons, List.length_nil, Act.put, List.setIfInBounds_toArray, List.set_cons_zero, List.set_cons_succ]
              refine held_take 35 (some 48) (v := ?_) rfl rfl (by kernel_rfl) (by kernel_rfl) (by kernel_rfl) (fun _ _ _ _ h => h) (by kernel_rfl) ?_ hHeld ?_
              rotate_left 1
              · intro w hSw; (try dsimp only at hSw); go_simp; (try with_reducible rfl)
              try simp only [List.foldl_cons, List.foldl_nil, List.length_cons, List.length_nil, Act.put, List.setIfInBounds_toArray, List.set_cons_zero, List.set_cons_succ]
              refine held_take 36 (some 49) (v := ?_) rfl rfl (by kernel_rfl) (by kernel_rfl) (by kernel_rfl) (fun _ _ _ _ h => h) (by kernel_rfl) ?_ hHeld ?_
              rotate_left 1
              · intro w hSw; (try dsimp only at hSw); go_simp; (try with_reducible rfl)
              try simp only [List.foldl_cons, List.foldl_nil, List.length_cons, List.length_nil, Act.put, List.setIfInBounds_toArray, List.set_cons_zero, List.set_cons_succ]
              refine held_skips (fuel := 11) (by kernel_rfl) (fun _ _ _ _ h => h) [(37, some 50), (38, some 51), (39, some 52), (40, some 53), (41, some 54), (42, some 55)] (by kernel_rfl) hHeld ?_
              try simp only [List.foldl_cons, List.foldl_nil, List.length_cons, List.length_nil, Act.put, List.setIfInBounds_toArray, List.set_cons_zero, List.set_cons_succ]
              refine held_take 43 (some 56) (v := ?_) rfl rfl (by kernel_rfl) (by kernel_rfl) (by kernel_rfl) (fun _ _ _ _ h => h) (by kernel_rfl) ?_ hHeld ?_
              rotate_left 1
              · intro w hSw; (try dsimp only at hSw); go_simp; (try with_reducible rfl)
              try simp only [List.foldl_cons, List.foldl_nil, List.length_cons, List.length_nil, Act.put, List.setIfInBounds_toArray, List.set_cons_zero, List.set_cons_succ]
              refine held_take 44 (some 57) (v := ?_) rfl rfl (by kernel_rfl) (by kernel_rfl) (by kernel_rfl) (fun _ _ _ _ h => h) (by kernel_rfl) ?_ hHeld ?_
              rotate_left 1
              · intro w hSw; (try dsimp only at hSw); go_simp; (try with_reducible rfl)
              try simp only [List.foldl_cons, List.foldl_nil, List.length_cons, List.length_nil, Act.put, List.setIfInBounds_toArray, List.set_cons_zero, List.set_cons_succ]
              refine held_take 45 (some 58) (v := ?_) rfl rfl (by kernel_rfl) (by kernel_rfl) (by kernel_rfl) (fun _ _ _ _ h => h) (by kernel_rfl) ?_ hHeld ?_
              rotate_left 1
              · intro w hSw; (try dsimp only at hSw); go_simp; (try with_reducible rfl)
              try simp only [List.foldl_cons, List.foldl_nil, List.length_cons, List.length_nil, Act.put, List.setIfInBounds_toArray, List.set_cons_zero, List.set_cons_succ]
              refine held_take 46 (some 59) (v := ?_) rfl rfl (by kernel_rfl) (by kernel_rfl) (by kernel_rfl) (fun _ _ _ _ h => h) (by kernel_rfl) ?_ hHeld ?_
              rotate_left 1
              · intro w hSw; (try dsimp only at hSw); go_simp; (try with_reducible rfl)
              try simp only [List.foldl_cons, List.foldl_nil, List.length_cons, List.length_nil, Act.put, List.setIfInBounds_toArray, List.set_cons_zero, List.set_cons_succ]
              refine held_take 47 (some 60) (v := ?_) rfl rfl (by kernel_rfl) (by kernel_rfl) (by kernel_rfl) (fun _ _ _ _ h => h) (by kernel_rfl) ?_ hHeld ?_
              rotate_left 1
              · intro w hSw; (try dsimp only at hSw); go_simp; (try with_reducible rfl)
              try simp only [List.foldl_cons, List.foldl_nil, List.length_cons, List.length_nil, Act.put, List.setIfInBounds_toArray, List.set_cons_zero, List.set_cons_succ]
              refine held_take 48 (some 61) (v := ?_) rfl rfl (by kernel_rfl) (by kernel_rfl) (by kernel_rfl) (fun _ _ _ _ h => h) (by kernel_rfl) ?_ hHeld ?_
              rotate_left 1
              · intro w hSw; (try dsimp only at hSw); go_simp; (try with_reducible rfl)
              try simp only [List.foldl_cons, List.foldl_nil, List.length_cons, List.length_nil, Act.put, List.setIfInBounds_toArray, List.set_cons_zero, List.set_cons_succ]
              refine held_take 49 (some 62) (v := ?_) rfl rfl (by kernel_rfl) (by kernel_rfl) (by kernel_rfl) (fun _ _ _ _ h => h) (by kernel_rfl) ?_ hHeld ?_
              rotate_left 1
              · intro w hSw; (try dsimp only at hSw); go_simp; (try with_reducible rfl)
              try simp only [List.foldl_cons, List.foldl_nil, List.length_cons, List.length_nil, Act.put, List.setIfInBounds_toArray, List.set_cons_zero, List.set_cons_succ]
              refine held_take 50 (some 63) (v := ?_) rfl rfl (by kernel_rfl) (by kernel_rfl) (by kernel_rfl) (fun _ _ _ _ h => h) (by kernel_rfl) ?_ hHeld ?_
              rotate_left 1
              · intro w hSw; (try dsimp only at hSw); go_simp; (try with_reducible rfl)
              try simp only [List.foldl_cons, List.foldl_nil, List.length_cons, List.length_nil, Act.put, List.setIfInBounds_toArray, List.set_cons_zero, List.set_cons_succ]
              refine wpAnyH_ready (rs := [51]) (by kernel_rfl) (by simp) ?_
              refine AllReadyH.cons rfl (fun K hK => ?_) AllReadyH.nil
              go_simp
              (go_at_call 9; refine (HH.out.valid rem _ hrem HTd.out).mono ?_; rintro e w1 ⟨rfl, hb⟩; rw [HV])
              go_wp2_with fail
              have hOld := hHeld
              clear hHeld
              refine hK.out _ _ ?_ (fun hHeld => ?_)
              · exact ⟨cell_later hb hOld.1, cell_later hb hOld.2.1, cell_later hb hOld.2.2.1, cell_later hb hOld.2.2.2⟩
              clear hK K hOld
              try simp only [List.foldl_cons, List.foldl_nil, List.length_cons, List.length_nil, Act.put, List.setIfInBounds_toArray, List.set_cons_zero, List.set_cons_succ]
              refine held_take 52 (some 65) (v := ?_) rfl rfl (by kernel_rfl) (by kernel_rfl) (by kernel_rfl) (fun _ _ _ _ h => h) (by kernel_rfl) ?_ hHeld ?_
              rotate_left 1
              · intro w hSw; (try dsimp only at hSw); go_simp; (try with_reducible rfl)
              try simp only [List.foldl_cons, List.foldl_nil, List.length_cons, List.length_nil, Act.put, List.setIfInBounds_toArray, List.set_cons_zero, List.set_cons_succ]
              refine held_take 53 (some 66) (v := ?_) rfl rfl (by kernel_rfl) (by kernel_rfl) (by kernel_rfl) (fun _ _ _ _ h => h) (by kernel_rfl) ?_ hHeld ?_
              rotate_left 1
              · intro w hSw; (try dsimp only at hSw); go_simp; (try with_reducible rfl)
              try simp only [List.foldl_cons, List.foldl_nil, List.length_cons, List.length_nil, Act.put, List.setIfInBounds_toArray, List.set_cons_zero, List.set_cons_succ]
              refine wpAnyH_done (by kernel_rfl) ?_ _
              go_wp2
              go_rounds 1
              go_roundw
              case rel => exact ⟨k + 1, by omega, by go_num, HH.out.later _ _ HTd.out hb, below_step (Nat.le_refl _) hbd hb, HJ2⟩
              case measure => first | (simp [intOf]; done) | (simp [intOf]; omega)
          · have hn1 : 0 < n := by omega
            go_wp2_with fail
            refine held_begin (S := fun w' => w'.cell? (a.add (k * 4)) = some (.bool true) ∧ w'.cell? ⟨(a.add (k * 4)).block, (a.add (k * 4)).off + 1, none⟩ = some (.string rem) ∧ w'.cell? ⟨(a.add (k * 4)).block, (a.add (k * 4)).off + 2, none⟩ = some (.slice na n nc) ∧ w'.cell? ⟨(a.add (k * 4)).block, (a.add (k * 4)).off + 3, none⟩ = some (.slice ha n hc)) 54 (by rfl) (by kernel_rfl) ?_ (fun hHeld => ?_)
            · exact ⟨by simpa using q0, by simpa using q1, by simpa using q2, by simpa using q3⟩
            refine held_take 0 (some 13) (v := ?_) rfl rfl (by kernel_rfl) (by kernel_rfl) (by kernel_rfl) (fun _ _ _ _ h => h) (by kernel_rfl) ?_ hHeld ?_
            rotate_left 1
            · intro w hSw; (try dsimp only at hSw); go_simp; (try with_reducible rfl)
            try simp only [List.foldl_cons, List.foldl_nil, List.length_cons, List.length_nil, Act.put, List.setIfInBounds_toArray, List.set_cons_zero, List.set_cons_succ]
            refine held_take 1 (some 14) (v := ?_) rfl rfl (by kernel_rfl) (by kernel_rfl) (by kernel_rfl) (fun _ _ _ _ h => h) (by kernel_rfl) ?_ hHeld ?_
            rotate_left 1
            · intro w hSw; (try dsimp only at hSw); go_simp; (try with_reducible rfl)
            try simp only [List.foldl_cons, List.foldl_nil, List.length_cons, List.length_nil, Act.put, List.setIfInBounds_toArray, List.set_cons_zero, List.set_cons_succ]
            refine held_take 2 (some 15) (v := ?_) rfl rfl (by kernel_rfl) (by kernel_rfl) (by kernel_rfl) (fun _ _ _ _ h => h) (by kernel_rfl) ?_ hHeld ?_
            rotate_left 1
            · intro w hSw; (try dsimp only at hSw); go_simp; (try with_reducible rfl)
            try simp only [List.foldl_cons, List.foldl_nil, List.length_cons, List.length_nil, Act.put, List.setIfInBounds_toArray, List.set_cons_zero, List.set_cons_succ]
            refine held_take 3 (some 16) (v := ?_) rfl rfl (by kernel_rfl) (by kernel_rfl) (by kernel_rfl) (fun _ _ _ _ h => h) (by kernel_rfl) ?_ hHeld ?_
            rotate_left 1
            · intro w hSw; (try dsimp only at hSw); go_simp; (try with_reducible rfl)
            try simp only [List.foldl_cons, List.foldl_nil, List.length_cons, List.length_nil, Act.put, List.setIfInBounds_toArray, List.set_cons_zero, List.set_cons_succ]
            refine held_take 4 (some 17) (v := ?_) rfl rfl (by kernel_rfl) (by kernel_rfl) (by kernel_rfl) (fun _ _ _ _ h => h) (by kernel_rfl) ?_ hHeld ?_
            rotate_left 1
            · intro w hSw; (try dsimp only at hSw); go_simp; (try with_reducible rfl)
            try simp only [List.foldl_cons, List.foldl_nil, List.length_cons, List.length_nil, Act.put, List.setIfInBounds_toArray, List.set_cons_zero, List.set_cons_succ]
            refine held_take 5 (some 18) (v := ?_) rfl rfl (by kernel_rfl) (by kernel_rfl) (by kernel_rfl) (fun _ _ _ _ h => h) (by kernel_rfl) ?_ hHeld ?_
            rotate_left 1
            · intro w hSw; (try dsimp only at hSw); go_simp; (try with_reducible rfl)
            try simp only [List.foldl_cons, List.foldl_nil, List.length_cons, List.length_nil, Act.put, List.setIfInBounds_toArray, List.set_cons_zero, List.set_cons_succ]
            refine held_take 6 (some 19) (v := ?_) rfl rfl (by kernel_rfl) (by kernel_rfl) (by kernel_rfl) (fun _ _ _ _ h => h) (by kernel_rfl) ?_ hHeld ?_
            rotate_left 1
            · intro w hSw; (try dsimp only at hSw); go_simp; (try with_reducible rfl)
            try simp only [List.foldl_cons, List.foldl_nil, List.length_cons, List.length_nil, Act.put, List.setIfInBounds_toArray, List.set_cons_zero, List.set_cons_succ]
            refine held_take 7 (some 20) (v := ?_) rfl rfl (by kernel_rfl) (by kernel_rfl) (by kernel_rfl) (fun _ _ _ _ h => h) (by kernel_rfl) ?_ hHeld ?_
            rotate_left 1
            · intro w hSw; (try dsimp only at hSw); go_simp; (try with_reducible rfl)
            try simp only [List.foldl_cons, List.foldl_nil, List.length_cons, List.length_nil, Act.put, List.setIfInBounds_toArray, List.set_cons_zero, List.set_cons_succ]
            refine held_take 8 (some 21) (v := ?_) rfl rfl (by kernel_rfl) (by kernel_rfl) (by kernel_rfl) (fun _ _ _ _ h => h) (by kernel_rfl) ?_ hHeld ?_
            rotate_left 1
            · intro w hSw; (try dsimp only at hSw); go_simp; (try with_reducible rfl)
            try simp only [List.foldl_cons, List.foldl_nil, List.length_cons, List.length_nil, Act.put, List.setIfInBounds_toArray, List.set_cons_zero, List.set_cons_succ]
            refine held_take 9 (some 22) (v := ?_) rfl rfl (by kernel_rfl) (by kernel_rfl) (by kernel_rfl) (fun _ _ _ _ h => h) (by kernel_rfl) ?_ hHeld ?_
            rotate_left 1
            · intro w hSw; (try dsimp only at hSw); go_simp; (try with_reducible rfl)
            try simp only [List.foldl_cons, List.foldl_nil, List.length_cons, List.length_nil, Act.put, List.setIfInBounds_toArray, List.set_cons_zero, List.set_cons_succ]
            refine held_take 10 (some 23) (v := ?_) rfl rfl (by kernel_rfl) (by kernel_rfl) (by kernel_rfl) (fun _ _ _ _ h => h) (by kernel_rfl) ?_ hHeld ?_
            rotate_left 1
            · intro w hSw; (try dsimp only at hSw); go_simp; (try with_reducible rfl)
            try simp only [List.foldl_cons, List.foldl_nil, List.length_cons, List.length_nil, Act.put, List.setIfInBounds_toArray, List.set_cons_zero, List.set_cons_succ]
            refine held_take 11 (some 24) (v := ?_) rfl rfl (by kernel_rfl) (by kernel_rfl) (by kernel_rfl) (fun _ _ _ _ h => h) (by kernel_rfl) ?_ hHeld ?_
            rotate_left 1
            · intro w hSw; (try dsimp only at hSw); go_simp; (try with_reducible rfl)
            try simp only [List.foldl_cons, List.foldl_nil, List.length_cons, List.length_nil, Act.put, List.setIfInBounds_toArray, List.set_cons_zero, List.set_cons_succ]
            refine held_take 12 (some 25) (v := ?_) rfl rfl (by kernel_rfl) (by kernel_rfl) (by kernel_rfl) (fun _ _ _ _ h => h) (by kernel_rfl) ?_ hHeld ?_
            rotate_left 1
            · intro w hSw; (try dsimp only at hSw); go_simp; (try with_reducible rfl)
            try simp only [List.foldl_cons, List.foldl_nil, List.length_cons, List.length_nil, Act.put, List.setIfInBounds_toArray, List.set_cons_zero, List.set_cons_succ]
            refine held_take 13 (some 26) (v := ?_) rfl rfl (by kernel_rfl) (by kernel_rfl) (by kernel_rfl) (fun _ _ _ _ h => h) (by kernel_rfl) ?_ hHeld ?_
            rotate_left 1
            · intro w hSw; (try dsimp only at hSw); go_simp; (try with_reducible rfl)
            try simp only [List.foldl_cons, List.foldl_nil, List.length_cons, List.length_nil, Act.put, List.setIfInBounds_toArray, List.set_cons_zero, List.set_cons_succ]
            refine held_take 14 (some 27) (v := ?_) rfl rfl (by kernel_rfl) (by kernel_rfl) (by kernel_rfl) (fun _ _ _ _ h => h) (by kernel_rfl) ?_ hHeld ?_
            rotate_left 1
            · intro w hSw; (try dsimp only at hSw); go_simp; (try with_reducible rfl)
            try simp only [List.foldl_cons, List.foldl_nil, List.length_cons, List.length_nil, Act.put, List.setIfInBounds_toArray, List.set_cons_zero, List.set_cons_succ]
            refine held_take 15 (some 28) (v := ?_) rfl rfl (by kernel_rfl) (by kernel_rfl) (by kernel_rfl) (fun _ _ _ _ h => h) (by kernel_rfl) ?_ hHeld ?_
            rotate_left 1
            · intro w hSw; (try dsimp only at hSw); go_simp; (try with_reducible rfl)
            try simp only [List.foldl_cons, List.foldl_nil, List.length_cons, List.length_nil, Act.put, List.setIfInBounds_toArray, List.set_cons_zero, List.set_cons_succ]
            refine held_take 16 (some 29) (v := ?_) rfl rfl (by kernel_rfl) (by kernel_rfl) (by kernel_rfl) (fun _ _ _ _ h => h) (by kernel_rfl) ?_ hHeld ?_
            rotate_left 1
            · intro w hSw; (try dsimp only at hSw); go_simp; (try with_reducible rfl)
            try simp only [List.foldl_cons, List.foldl_nil, List.length_cons, List.length_nil, Act.put, List.setIfInBounds_toArray, List.set_cons_zero, List.set_cons_succ]
            refine held_take 17 (some 30) (v := ?_) rfl rfl (by kernel_rfl) (by kernel_rfl) (by kernel_rfl) (fun _ _ _ _ h => h) (by kernel_rfl) ?_ hHeld ?_
            rotate_left 1
            · intro w hSw; (try dsimp only at hSw); go_simp; (try with_reducible rfl)
            try simp only [List.foldl_cons, List.foldl_nil, List.length_cons, List.length_nil, Act.put, List.setIfInBounds_toArray, List.set_cons_zero, List.set_cons_succ]
            refine held_take 18 (some 31) (v := ?_) rfl rfl (by kernel_rfl) (by kernel_rfl) (by kernel_rfl) (fun _ _ _ _ h => h) (by kernel_rfl) ?_ hHeld ?_
            rotate_left 1
            · intro w hSw; (try dsimp only at hSw); go_simp; (try with_reducible rfl)
            try simp only [List.foldl_cons, List.foldl_nil, List.length_cons, List.length_nil, Act.put, List.setIfInBounds_toArray, List.set_cons_zero, List.set_cons_succ]
            refine held_take 19 (some 32) (v := ?_) rfl rfl (by kernel_rfl) (by kernel_rfl) (by kernel_rfl) (fun _ _ _ _ h => h) (by kernel_rfl) ?_ hHeld ?_
            rotate_left 1
            · intro w hSw; (try dsimp only at hSw); go_simp; (try with_reducible rfl)
            try simp only [List.foldl_cons, List.foldl_nil, List.length_cons, List.length_nil, Act.put, List.setIfInBounds_toArray, List.set_cons_zero, List.set_cons_succ]
            refine held_take 20 (some 33) (v := ?_) rfl rfl (by kernel_rfl) (by kernel_rfl) (by kernel_rfl) (fun _ _ _ _ h => h) (by kernel_rfl) ?_ hHeld ?_
            rotate_left 1
            · intro w hSw; (try dsimp only at hSw); go_simp; (try with_reducible rfl)
            try simp only [List.foldl_cons, List.foldl_nil, List.length_cons, List.length_nil, Act.put, List.setIfInBounds_toArray, List.set_cons_zero, List.set_cons_succ]
            refine held_take 21 (some 34) (v := ?_) rfl rfl (by kernel_rfl) (by kernel_rfl) (by kernel_rfl) (fun _ _ _ _ h => h) (by kernel_rfl) ?_ hHeld ?_
            rotate_left 1
            · intro w hSw; (try dsimp only at hSw); go_simp; (try with_reducible rfl)
            try simp only [List.foldl_cons, List.foldl_nil, List.length_cons, List.length_nil, Act.put, List.setIfInBounds_toArray, List.set_cons_zero, List.set_cons_succ]
            refine held_take 22 (some 35) (v := ?_) rfl rfl (by kernel_rfl) (by kernel_rfl) (by kernel_rfl) (fun _ _ _ _ h => h) (by kernel_rfl) ?_ hHeld ?_
            rotate_left 1
            · intro w hSw; (try dsimp only at hSw); go_simp; (try with_reducible rfl)
            try simp only [List.foldl_cons, List.foldl_nil, List.length_cons, List.length_nil, Act.put, List.setIfInBounds_toArray, List.set_cons_zero, List.set_cons_succ]
            refine held_take 23 (some 36) (v := ?_) rfl rfl (by kernel_rfl) (by kernel_rfl) (by kernel_rfl) (fun _ _ _ _ h => h) (by kernel_rfl) ?_ hHeld ?_
            rotate_left 1
            · intro w hSw; (try dsimp only at hSw); go_simp; (try with_reducible rfl)
            try simp only [List.foldl_cons, List.foldl_nil, List.length_cons, List.length_nil, Act.put, List.setIfInBounds_toArray, List.set_cons_zero, List.set_cons_succ]
            refine held_take 24 (some 37) (v := ?_) rfl rfl (by kernel_rfl) (by kernel_rfl) (by kernel_rfl) (fun _ _ _ _ h => h) (by kernel_rfl) ?_ hHeld ?_
            rotate_left 1
            · intro w hSw; (try dsimp only at hSw); go_simp; (try with_reducible rfl)
            try simp only [List.foldl_cons, List.foldl_nil, List.length_cons, List.length_nil, Act.put, List.setIfInBounds_toArray, List.set_cons_zero, List.set_cons_succ]
            refine held_take 25 (some 38) (v := ?_) rfl rfl (by kernel_rfl) (by kernel_rfl) (by kernel_rfl) (fun _ _ _ _ h => h) (by kernel_rfl) ?_ hHeld ?_
            rotate_left 1
            · intro w hSw; (try dsimp only at hSw); go_simp; (try with_reducible rfl)
            try simp only [List.foldl_cons, List.foldl_nil, List.length_cons, List.length_nil, Act.put, List.setIfInBounds_toArray, List.set_cons_zero, List.set_cons_succ]
            refine held_take 26 (some 39) (v := ?_) rfl rfl (by kernel_rfl) (by kernel_rfl) (by kernel_rfl) (fun _ _ _ _ h => h) (by kernel_rfl) ?_ hHeld ?_
            rotate_left 1
            · intro w hSw; (try dsimp only at hSw); go_simp; (try with_reducible rfl)
            try simp only [List.foldl_cons, List.foldl_nil, List.length_cons, List.length_nil, Act.put, List.setIfInBounds_toArray, List.set_cons_zero, List.set_cons_succ]
            refine held_take 27 (some 40) (v := ?_) rfl rfl (by kernel_rfl) (by kernel_rfl) (by kernel_rfl) (fun _ _ _ _ h => h) (by kernel_rfl) ?_ hHeld ?_
            rotate_left 1
            · intro w hSw; (try dsimp only at hSw); go_simp; (try with_reducible rfl)
            try simp only [List.foldl_cons, List.foldl_nil, List.length_cons, List.length_nil, Act.put, List.setIfInBounds_toArray, List.set_cons_zero, List.set_cons_succ]
            refine held_take 28 (some 41) (v := ?_) rfl rfl (by kernel_rfl) (by kernel_rfl) (by kernel_rfl) (fun _ _ _ _ h => h) (by kernel_rfl) ?_ hHeld ?_
            rotate_left 1
            · intro w hSw; (try dsimp only at hSw); go_simp; (try with_reducible rfl)
            try simp only [List.foldl_cons, List.foldl_nil, List.length_cons, List.length_nil, Act.put, List.setIfInBounds_toArray, List.set_cons_zero, List.set_cons_succ]
            refine held_take 29 (some 42) (v := ?_) rfl rfl (by kernel_rfl) (by kernel_rfl) (by kernel_rfl) (fun _ _ _ _ h => h) (by kernel_rfl) ?_ hHeld ?_
            rotate_left 1
            · intro w hSw; (try dsimp only at hSw); go_simp; (try with_reducible rfl)
            try simp only [List.foldl_cons, List.foldl_nil, List.length_cons, List.length_nil, Act.put, List.setIfInBounds_toArray, List.set_cons_zero, List.set_cons_succ]
            refine held_skips (fuel := 10) (by kernel_rfl) (fun _ _ _ _ h => h) [(30, some 43), (31, some 44), (32, some 45), (33, some 46), (34, some 47), (35, some 48), (36, some 49), (37, some 50), (38, some 51), (39, some 52), (40, some 53), (41, some 54), (42, some 55), (43, some 56)] (by kernel_rfl) hHeld ?_
            try simp only [List.foldl_cons, List.foldl_nil, List.length_cons, List.length_nil, Act.put, List.setIfInBounds_toArray, List.set_cons_zero, List.set_cons_succ]
            refine held_take 44 (some 57) (v := ?_) rfl rfl (by kernel_rfl) (by kernel_rfl) (by kernel_rfl) (fun _ _ _ _ h => h) (by kernel_rfl) ?_ hHeld ?_
            rotate_left 1
            · intro w hSw; (try dsimp only at hSw); go_simp; (try with_reducible rfl)
            try simp only [List.foldl_cons, List.foldl_nil, List.length_cons, List.length_nil, Act.put, List.setIfInBounds_toArray, List.set_cons_zero, List.set_cons_succ]
            refine held_take 45 (some 58) (v := ?_) rfl rfl (by kernel_rfl) (by kernel_rfl) (by kernel_rfl) (fun _ _ _ _ h => h) (by kernel_rfl) ?_ hHeld ?_
            rotate_left 1
            · intro w hSw; (try dsimp only at hSw); go_simp; (try with_reducible rfl)
            try simp only [List.foldl_cons, List.foldl_nil, List.length_cons, List.length_nil, Act.put, List.setIfInBounds_toArray, List.set_cons_zero, List.set_cons_succ]
            refine held_skips (fuel := 1) (by kernel_rfl) (fun _ _ _ _ h => h) [(46, some 59), (47, some 60), (48, some 61), (49, some 62), (50, some 63), (51, some 64), (52, some 65)] (by kernel_rfl) hHeld ?_
            try simp only [List.foldl_cons, List.foldl_nil, List.length_cons, List.length_nil, Act.put, List.setIfInBounds_toArray, List.set_cons_zero, List.set_cons_succ]
            refine held_take 53 (some 66) (v := ?_) rfl rfl (by kernel_rfl) (by kernel_rfl) (by kernel_rfl) (fun _ _ _ _ h => h) (by kernel_rfl) ?_ hHeld ?_
            rotate_left 1
            · intro w hSw; (try dsimp only at hSw); go_simp; (try with_reducible rfl)
            try simp only [List.foldl_cons, List.foldl_nil, List.length_cons, List.length_nil, Act.put, List.setIfInBounds_toArray, List.set_cons_zero, List.set_cons_succ]
            refine wpAnyH_done (by kernel_rfl) ?_ _
            go_wp2
            go_ret
            exact ⟨⟨_, rfl, fun h => by cases h⟩, hbd⟩
      · have hnm' : ((n : Int) != m) = true := by simp; omega
        go_wp2_with fail
        refine held_begin (S := fun w' => w'.cell? (a.add (k * 4)) = some (.bool is) ∧ w'.cell? ⟨(a.add (k * 4)).block, (a.add (k * 4)).off + 1, none⟩ = some (.string rem) ∧ w'.cell? ⟨(a.add (k * 4)).block, (a.add (k * 4)).off + 2, none⟩ = some (.slice na n nc) ∧ w'.cell? ⟨(a.add (k * 4)).block, (a.add (k * 4)).off + 3, none⟩ = some (.slice ha m hc)) 54 (by rfl) (by kernel_rfl) ?_ (fun hHeld => ?_)
        · exact ⟨by simpa using q0, by simpa using q1, by simpa using q2, by simpa using q3⟩
        refine held_take 0 (some 13) (v := ?_) rfl rfl (by kernel_rfl) (by kernel_rfl) (by kernel_rfl) (fun _ _ _ _ h => h) (by kernel_rfl) ?_ hHeld ?_
        rotate_left 1
        · intro w hSw; (try dsimp only at hSw); go_simp; (try with_reducible rfl)
        try simp only [List.foldl_cons, List.foldl_nil, List.length_cons, List.length_nil, Act.put, List.setIfInBounds_toArray, List.set_cons_zero, List.set_cons_succ]
        refine held_take 1 (some 14) (v := ?_) rfl rfl (by kernel_rfl) (by kernel_rfl) (by kernel_rfl) (fun _ _ _ _ h => h) (by kernel_rfl) ?_ hHeld ?_
        rotate_left 1
        · intro w hSw; (try dsimp only at hSw); go_simp; (try with_reducible rfl)
        try simp only [List.foldl_cons, List.foldl_nil, List.length_cons, List.length_nil, Act.put, List.setIfInBounds_toArray, List.set_cons_zero, List.set_cons_succ]
        refine held_take 2 (some 15) (v := ?_) rfl rfl (by kernel_rfl) (by kernel_rfl) (by kernel_rfl) (fun _ _ _ _ h => h) (by kernel_rfl) ?_ hHeld ?_
        rotate_left 1
        · intro w hSw; (try dsimp only at hSw); go_simp; (try with_reducible rfl)
        try simp only [List.foldl_cons, List.foldl_nil, List.length_cons, List.length_nil, Act.put, List.setIfInBounds_toArray, List.set_cons_zero, List.set_cons_succ]
        refine held_take 3 (some 16) (v := ?_) rfl rfl (by kernel_rfl) (by kernel_rfl) (by kernel_rfl) (fun _ _ _ _ h => h) (by kernel_rfl) ?_ hHeld ?_
        rotate_left 1
        · intro w hSw; (try dsimp only at hSw); go_simp; (try with_reducible rfl)
        try simp only [List.foldl_cons, List.foldl_nil, List.length_cons, List.length_nil, Act.put, List.setIfInBounds_toArray, List.set_cons_zero, List.set_cons_succ]
        refine held_take 4 (some 17) (v := ?_) rfl rfl (by kernel_rfl) (by kernel_rfl) (by kernel_rfl) (fun _ _ _ _ h => h) (by kernel_rfl) ?_ hHeld ?_
        rotate_left 1
        · intro w hSw; (try dsimp only at hSw); go_simp; (try with_reducible rfl)
        try simp only [List.foldl_cons, List.foldl_nil, List.length_cons, List.length_nil, Act.put, List.setIfInBounds_toArray, List.set_cons_zero, List.set_cons_succ]
        refine held_take 5 (some 18) (v := ?_) rfl rfl (by kernel_rfl) (by kernel_rfl) (by kernel_rfl) (fun _ _ _ _ h => h) (by kernel_rfl) ?_ hHeld ?_
        rotate_left 1
        · intro w hSw; (try dsimp only at hSw); go_simp; (try with_reducible rfl)
        try simp only [List.foldl_cons, List.foldl_nil, List.length_cons, List.length_nil, Act.put, List.setIfInBounds_toArray, List.set_cons_zero, List.set_cons_succ]
        refine held_take 6 (some 19) (v := ?_) rfl rfl (by kernel_rfl) (by kernel_rfl) (by kernel_rfl) (fun _ _ _ _ h => h) (by kernel_rfl) ?_ hHeld ?_
        rotate_left 1
        · intro w hSw; (try dsimp only at hSw); go_simp; (try with_reducible rfl)
        try simp only [List.foldl_cons, List.foldl_nil, List.length_cons, List.length_nil, Act.put, List.setIfInBounds_toArray, List.set_cons_zero, List.set_cons_succ]
        refine held_take 7 (some 20) (v := ?_) rfl rfl (by kernel_rfl) (by kernel_rfl) (by kernel_rfl) (fun _ _ _ _ h => h) (by kernel_rfl) ?_ hHeld ?_
        rotate_left 1
        · intro w hSw; (try dsimp only at hSw); go_simp; (try with_reducible rfl)
        try simp only [List.foldl_cons, List.foldl_nil, List.length_cons, List.length_nil, Act.put, List.setIfInBounds_toArray, List.set_cons_zero, List.set_cons_succ]
        refine held_take 8 (some 21) (v := ?_) rfl rfl (by kernel_rfl) (by kernel_rfl) (by kernel_rfl) (fun _ _ _ _ h => h) (by kernel_rfl) ?_ hHeld ?_
        rotate_left 1
        · intro w hSw; (try dsimp only at hSw); go_simp; (try with_reducible rfl)
        try simp only [List.foldl_cons, List.foldl_nil, List.length_cons, List.length_nil, Act.put, List.setIfInBounds_toArray, List.set_cons_zero, List.set_cons_succ]
        refine held_take 9 (some 22) (v := ?_) rfl rfl (by kernel_rfl) (by kernel_rfl) (by kernel_rfl) (fun _ _ _ _ h => h) (by kernel_rfl) ?_ hHeld ?_
        rotate_left 1
        · intro w hSw; (try dsimp only at hSw); go_simp; (try with_reducible rfl)
        try simp only [List.foldl_cons, List.foldl_nil, List.length_cons, List.length_nil, Act.put, List.setIfInBounds_toArray, List.set_cons_zero, List.set_cons_succ]
        refine held_take 10 (some 23) (v := ?_) rfl rfl (by kernel_rfl) (by kernel_rfl) (by kernel_rfl) (fun _ _ _ _ h => h) (by kernel_rfl) ?_ hHeld ?_
        rotate_left 1
        · intro w hSw; (try dsimp only at hSw); go_simp; (try with_reducible rfl)
        try simp only [List.foldl_cons, List.foldl_nil, List.length_cons, List.length_nil, Act.put, List.setIfInBounds_toArray, List.set_cons_zero, List.set_cons_succ]
        refine held_take 11 (some 24) (v := ?_) rfl rfl (by kernel_rfl) (by kernel_rfl) (by kernel_rfl) (fun _ _ _ _ h => h) (by kernel_rfl) ?_ hHeld ?_
        rotate_left 1
        · intro w hSw; (try dsimp only at hSw); go_simp; (try with_reducible rfl)
        try simp only [List.foldl_cons, List.foldl_nil, List.length_cons, List.length_nil, Act.put, List.setIfInBounds_toArray, List.set_cons_zero, List.set_cons_succ]
        refine held_take 12 (some 25) (v := ?_) rfl rfl (by kernel_rfl) (by kernel_rfl) (by kernel_rfl) (fun _ _ _ _ h => h) (by kernel_rfl) ?_ hHeld ?_
        rotate_left 1
        · intro w hSw; (try dsimp only at hSw); go_simp; (try with_reducible rfl)
        try simp only [List.foldl_cons, List.foldl_nil, List.length_cons, List.length_nil, Act.put, List.setIfInBounds_toArray, List.set_cons_zero, List.set_cons_succ]
        refine held_take 13 (some 26) (v := ?_) rfl rfl (by kernel_rfl) (by kernel_rfl) (by kernel_rfl) (fun _ _ _ _ h => h) (by kernel_rfl) ?_ hHeld ?_
        rotate_left 1
        · intro w hSw; (try dsimp only at hSw); go_simp; (try with_reducible rfl)
        try simp only [List.foldl_cons, List.foldl_nil, List.length_cons, List.length_nil, Act.put, List.setIfInBounds_toArray, List.set_cons_zero, List.set_cons_succ]
        refine held_skips (fuel := 26) (by kernel_rfl) (fun _ _ _ _ h => h) [(14, some 27), (15, some 28), (16, some 29), (17, some 30), (18, some 31), (19, some 32), (20, some 33), (21, some 34), (22, some 35), (23, some 36), (24, some 37), (25, some 38), (26, some 39), (27, some 40)] (by kernel_rfl) hHeld ?_
        try simp only [List.foldl_cons, List.foldl_nil, List.length_cons, List.length_nil, Act.put, List.setIfInBounds_toArray, List.set_cons_zero, List.set_cons_succ]
        refine held_take 28 (some 41) (v := ?_) rfl rfl (by kernel_rfl) (by kernel_rfl) (by kernel_rfl) (fun _ _ _ _ h => h) (by kernel_rfl) ?_ hHeld ?_
        rotate_left 1
        · intro w hSw; (try dsimp only at hSw); go_simp; (try with_reducible rfl)
        try simp only [List.foldl_cons, List.foldl_nil, List.length_cons, List.length_nil, Act.put, List.setIfInBounds_toArray, List.set_cons_zero, List.set_cons_succ]
        refine held_take 29 (some 42) (v := ?_) rfl rfl (by kernel_rfl) (by kernel_rfl) (by kernel_rfl) (fun _ _ _ _ h => h) (by kernel_rfl) ?_ hHeld ?_
        rotate_left 1
        · intro w hSw; (try dsimp only at hSw); go_simp; (try with_reducible rfl)
        try simp only [List.foldl_cons, List.foldl_nil, List.length_cons, List.length_nil, Act.put, List.setIfInBounds_toArray, List.set_cons_zero, List.set_cons_succ]
        refine held_skips (fuel := 10) (by kernel_rfl) (fun _ _ _ _ h => h) [(30, some 43), (31, some 44), (32, some 45), (33, some 46), (34, some 47), (35, some 48), (36, some 49), (37, some 50), (38, some 51), (39, some 52), (40, some 53), (41, some 54), (42, some 55), (43, some 56)] (by kernel_rfl) hHeld ?_
        try simp only [List.foldl_cons, List.foldl_nil, List.length_cons, List.length_nil, Act.put, List.setIfInBounds_toArray, List.set_cons_zero, List.set_cons_succ]
        refine held_take 44 (some 57) (v := ?_) rfl rfl (by kernel_rfl) (by kernel_rfl) (by kernel_rfl) (fun _ _ _ _ h => h) (by kernel_rfl) ?_ hHeld ?_
        rotate_left 1
        · intro w hSw; (try dsimp only at hSw); go_simp; (try with_reducible rfl)
        try simp only [List.foldl_cons, List.foldl_nil, List.length_cons, List.length_nil, Act.put, List.setIfInBounds_toArray, List.set_cons_zero, List.set_cons_succ]
        refine held_take 45 (some 58) (v := ?_) rfl rfl (by kernel_rfl) (by kernel_rfl) (by kernel_rfl) (fun _ _ _ _ h => h) (by kernel_rfl) ?_ hHeld ?_
        rotate_left 1
        · intro w hSw; (try dsimp only at hSw); go_simp; (try with_reducible rfl)
        try simp only [List.foldl_cons, List.foldl_nil, List.length_cons, List.length_nil, Act.put, List.setIfInBounds_toArray, List.set_cons_zero, List.set_cons_succ]
        refine held_skips (fuel := 1) (by kernel_rfl) (fun _ _ _ _ h => h) [(46, some 59), (47, some 60), (48, some 61), (49, some 62), (50, some 63), (51, some 64), (52, some 65)] (by kernel_rfl) hHeld ?_
        try simp only [List.foldl_cons, List.foldl_nil, List.length_cons, List.length_nil, Act.put, List.setIfInBounds_toArray, List.set_cons_zero, List.set_cons_succ]
        refine held_take 53 (some 66) (v := ?_) rfl rfl (by kernel_rfl) (by kernel_rfl) (by kernel_rfl) (fun _ _ _ _ h => h) (by kernel_rfl) ?_ hHeld ?_
        rotate_left 1
        · intro w hSw; (try dsimp only at hSw); go_simp; (try with_reducible rfl)
        try simp only [List.foldl_cons, List.foldl_nil, List.length_cons, List.length_nil, Act.put, List.setIfInBounds_toArray, List.set_cons_zero, List.set_cons_succ]
        refine wpAnyH_done (by kernel_rfl) ?_ _
        go_wp2
        go_ret
        exact ⟨⟨_, rfl, fun h => by cases h⟩, hbd⟩
    · obtain rfl : k = len := by omega
      go_wp2
      go_ret
      exact ⟨⟨true, rfl, fun _ => HJ.out⟩, hbel⟩
end Go.Proofs.YtbdadgkjiondgaaDoor.see
