/-
  FnSeen, FnStepsRemoved: the specification's list for steps.
-/
import Derived.Test.YtbdadgkjiondgaaDoorSeeSpec2
namespace Go.Proofs.YtbdadgkjiondgaaDoor.see
open Go.RowKit Go.Maps Go.WideMaps Go.Sort
set_option linter.unusedSimpArgs false
set_option linter.unusedVariables false

theorem ins_le (x : Nm) (h : Int) : ∀ L : Fl, (ins L x h).length ≤ L.length + 1
  | [] => by simp [ins]
  | a :: L => by
    have := ins_le x h L
    unfold ins
    split
    · simp; omega
    · split <;> simp

theorem puts_le (s : Sp) (L : Fl) : ∀ k, (putsL s L k).length ≤ L.length + k
  | 0 => by simp [putsL]
  | k + 1 => by
    have h1 := puts_le s L k
    have h2 := ins_le (s.nm k) (s.hd k) (putsL s L k)
    show (ins (putsL s L k) (s.nm k) (s.hd k)).length ≤ _
    omega

theorem made_le (X : Nat → Sp) : ∀ k, (∀ i, i < k → (X i).n ≤ 12) → (madeL X k).length ≤ 12 * k
  | 0, _ => by simp [madeL]
  | k + 1, h => by
    have h1 := made_le X k (fun i hi => h i (by omega))
    have h2 := h k (by omega)
    show (stepL (madeL X k) (X k)).length ≤ _
    unfold stepL
    have h3 := puts_le (X k) (if (X k).is = true then without (madeL X k) (X k).rem else madeL X k) (X k).n
    have h4 : (if (X k).is = true then without (madeL X k) (X k).rem else madeL X k).length ≤ (madeL X k).length := by
      split
      · exact wo_le _ _
      · exact Nat.le_refl _
    omega

theorem puts_up {s : Sp} (hs : SpOk s) {L : Fl} (h : Up L) : ∀ k, Up (putsL s L k)
  | 0 => h
  | k + 1 => ins_up (puts_up hs h k) _ _

theorem SeenRow.later {w w' : World} {B : Nat} {v : Value} {L : Fl} (h : SeenRow w B v L) (hb : Below w.heap.size w w') : SeenRow w' B v L := own_below h hb

set_option maxRecDepth 100000 in
set_option maxHeartbeats 3200000 in
theorem MadeBy_any (c : Option Addr) (len cap : Nat) (P : Nat → PE) (w : World) (h : PesIn w c len cap P) (hlen : len ≤ 20) (hok : ∀ i, i < len → PeOk (P i)) :
    Calls Tryd.prog 8 #[.slice c len cap] w fun e w' => ∃ v', e = .returned v' ∧ SeenRow w' w.heap.size v' (madeL (fun i => spP (P i)) len) ∧ Below w.heap.size w w' := by
  have HS := Lib.hid h
  have HO := Lib.hid hok
  clear h hok
  go_enter Tryd.func8, Tryd.ntmps8
  go_wp2_with fail
  go_loopw [3, 4] (fun v i wr => ∃ k : Nat, k ≤ len ∧ i = .int .i64 k ∧ SeenRow wr w.heap.size v (madeL (fun i => spP (P i)) k) ∧ Below w.heap.size w wr) (fun _ i _ => len - (intOf i).toNat)
  case atStart => exact ⟨0, Nat.zero_le _, rfl, World.ownsRow_nil _ _ _ _, Below.refl _ _⟩
  case round =>
    obtain ⟨k, hk, rfl, hrow, hbel⟩ := hrel
    have HR0 := Lib.hid hrow
    clear hrow
    rename World => W1
    have hsz := hbel.size
    by_cases hlt : k < len
    · obtain ⟨a, rfl, hc⟩ := HS.out.at hlt
      obtain ⟨q0, q1, q2, q3, q4, q5⟩ := hc.below hbel
      obtain ⟨hmn, -, -, hsp⟩ := HO.out k hlt
      have hml := made_le (fun i => spP (P i)) k (fun i hi => (HO.out i (by omega)).ok.few)
      have hmu : Up (madeL (fun i => spP (P i)) k) := (made_says (fun i => spP (P i)) k (fun i hi => (HO.out i (by omega)).ok) k (Nat.le_refl _)).up
      have HQ4 := Lib.hid q4
      have HQ5 := Lib.hid q5
      have HSP := Lib.hid hsp
      clear q4 q5 hc hsp
      have HNext : Hid (madeL (fun i => spP (P i)) (k + 1) = stepL (madeL (fun i => spP (P i)) k) (spP (P k))) := Lib.hid rfl
      obtain ⟨L1, hL1⟩ : ∃ L1, L1 = madeL (fun i => spP (P i)) k := ⟨_, rfl⟩
      rw [← hL1] at hml hmu HNext HR0
      clear hL1
      obtain ⟨ee, hee⟩ : ∃ ee, ee = P k := ⟨_, rfl⟩
      rw [← hee] at q0 q1 q2 q3 HQ4 HQ5 HSP HNext hmn
      clear hee
      obtain ⟨is, rem, n, na, nc, S, m, ha, hc, Hh⟩ := ee
      simp only at q0 q1 q2 q3 hmn
      subst hmn
      obtain ⟨sp, hsp⟩ : ∃ sp, sp = spP ⟨is, rem, m, na, nc, S, m, ha, hc, Hh⟩ := ⟨_, rfl⟩
      have HNm : Hid (∀ j, sp.nm j = (S j).data.toList ∧ sp.hd j = Hh j) := Lib.hid (fun j => by rw [hsp]; exact ⟨rfl, rfl⟩)
      have HSn : Hid (sp.n = m ∧ sp.is = is ∧ sp.rem = rem.data.toList) := Lib.hid (by rw [hsp]; exact ⟨rfl, rfl, rfl⟩)
      rw [← hsp] at HNext
      have HSP2 : Hid (SpOk sp) := Lib.hid (by rw [hsp]; exact HSP.out)
      have hfew : m ≤ 12 := HSP.out.few
      clear hsp HSP
      cases is
      · skip
        obtain ⟨L0, hL0⟩ : ∃ L0, L0 = L1 := ⟨_, rfl⟩
        have HN2 : Hid (stepL L1 sp = putsL sp L0 m) := Lib.hid (by unfold stepL; rw [HSn.out.2.1, HSn.out.1, hL0]; rfl)
        have hl0 : L0.length ≤ 12 * k := by rw [hL0]; exact hml
        have hu0 : Up L0 := by rw [hL0]; exact hmu
        have HRow0 := HR0
        rw [← hL0] at HRow0
        clear HR0 hL0 hml hmu HSn
        go_wp2_with fail
        clear q0 q1
        go_loopw [3, 5] (fun v i wr => ∃ j : Nat, j ≤ m ∧ i = .int .i64 j ∧ SeenRow wr w.heap.size v (putsL sp L0 j) ∧ Below W1.heap.size W1 wr) (fun _ i _ => m - (intOf i).toNat)
        case atStart => exact ⟨0, Nat.zero_le _, rfl, HRow0.out, Below.refl _ _⟩
        case round =>
          obtain ⟨j, hj, rfl, hrow, hbi⟩ := hrel
          have HR := Lib.hid hrow
          clear hrow
          have y2 := cell_later hbi q2
          have y3 := cell_later hbi q3
          have hbw := below_step (Nat.le_refl _) hbel hbi
          have hsw := hbw.size
          by_cases hltj : j < m
          · obtain ⟨an, rfl, hsn⟩ := strs_at HQ4.out hltj
            obtain ⟨ah, rfl, hin⟩ := IntsIn.at HQ5.out hltj
            have y4 := cell_later hbi hsn
            have y5 := cell_later hbi hin
            obtain ⟨e1, e2⟩ := HNm.out j
            have hj0 : (0 : Int) ≤ j := by omega
            have hjn : (j : Int) < m := by omega
            have HP : Hid (putsL sp L0 (j + 1) = ins (putsL sp L0 j) (S j).data.toList (Hh j)) := Lib.hid (by rw [← e1, ← e2]; rfl)
            have hll : (putsL sp L0 j).length ≤ 100000 := Nat.le_trans (puts_le sp L0 j) (by omega)
            have hup : Up (putsL sp L0 j) := puts_up HSP2.out hu0 j
            clear e1 e2 hsn hin
            obtain ⟨hh, hhe⟩ : ∃ hh, hh = Hh j := ⟨_, rfl⟩
            obtain ⟨sj, hse⟩ : ∃ sj, sj = S j := ⟨_, rfl⟩
            rw [← hhe] at y5 HP
            rw [← hse] at y4 HP
            clear hhe hse
            have HRd : Hid (SeenRow wr.drew w.heap.size u3 (putsL sp L0 j)) := HR
            go_wp2_with fail
            refine held_begin (S := fun w' => SeenRow w' w.heap.size u3 (putsL sp L0 j) ∧ w'.cell? ⟨(a.add (k * 4)).block, (a.add (k * 4)).off + 2, none⟩ = some (.slice (some an) m nc) ∧ w'.cell? ⟨(a.add (k * 4)).block, (a.add (k * 4)).off + 3, none⟩ = some (.slice (some ah) m hc) ∧ w'.cell? (an.add j) = some (.string sj) ∧ w'.cell? (ah.add j) = some (.int .i64 hh)) 20 (by rfl) (by kernel_rfl) ?_ (fun hHeld => ?_)
            · exact ⟨HR.out, by simpa using y2, by simpa using y3, by simpa using y4, by simpa using y5⟩
            refine held_take 0 (some 34) (v := ?_) rfl rfl (by kernel_rfl) (by kernel_rfl) (by kernel_rfl) (fun _ _ _ _ h => h) (by kernel_rfl) ?_ hHeld ?_
            rotate_left 1
            · intro w hSw; (try dsimp only at hSw); go_simp; (try with_reducible rfl)
            try simp only [List.foldl_cons, List.foldl_nil, List.length_cons, List.length_nil, Act.put, List.setIfInBounds_toArray, List.set_cons_zero, List.set_cons_succ]
            refine held_take 1 (some 35) (v := ?_) rfl rfl (by kernel_rfl) (by kernel_rfl) (by kernel_rfl) (fun _ _ _ _ h => h) (by kernel_rfl) ?_ hHeld ?_
            rotate_left 1
            · intro w hSw; (try dsimp only at hSw); go_simp; (try with_reducible rfl)
            try simp only [List.foldl_cons, List.foldl_nil, List.length_cons, List.length_nil, Act.put, List.setIfInBounds_toArray, List.set_cons_zero, List.set_cons_succ]
            refine held_take 2 (some 36) (v := ?_) rfl rfl (by kernel_rfl) (by kernel_rfl) (by kernel_rfl) (fun _ _ _ _ h => h) (by kernel_rfl) ?_ hHeld ?_
            rotate_left 1
            · intro w hSw; (try dsimp only at hSw); go_simp; (try with_reducible rfl)
            try simp only [List.foldl_cons, List.foldl_nil, List.length_cons, List.length_nil, Act.put, List.setIfInBounds_toArray, List.set_cons_zero, List.set_cons_succ]
            refine held_take 3 (some 37) (v := ?_) rfl rfl (by kernel_rfl) (by kernel_rfl) (by kernel_rfl) (fun _ _ _ _ h => h) (by kernel_rfl) ?_ hHeld ?_
            rotate_left 1
            · intro w hSw; (try dsimp only at hSw); go_simp; (try with_reducible rfl)
            try simp only [List.foldl_cons, List.foldl_nil, List.length_cons, List.length_nil, Act.put, List.setIfInBounds_toArray, List.set_cons_zero, List.set_cons_succ]
            refine held_take 4 (some 38) (v := ?_) rfl rfl (by kernel_rfl) (by kernel_rfl) (by kernel_rfl) (fun _ _ _ _ h => h) (by kernel_rfl) ?_ hHeld ?_
            rotate_left 1
            · intro w hSw; (try dsimp only at hSw); go_simp; (try with_reducible rfl)
            try simp only [List.foldl_cons, List.foldl_nil, List.length_cons, List.length_nil, Act.put, List.setIfInBounds_toArray, List.set_cons_zero, List.set_cons_succ]
            refine held_take 5 (some 39) (v := ?_) rfl rfl (by kernel_rfl) (by kernel_rfl) (by kernel_rfl) (fun _ _ _ _ h => h) (by kernel_rfl) ?_ hHeld ?_
            rotate_left 1
            · intro w hSw; (try dsimp only at hSw); go_simp; (try with_reducible rfl)
            try simp only [List.foldl_cons, List.foldl_nil, List.length_cons, List.length_nil, Act.put, List.setIfInBounds_toArray, List.set_cons_zero, List.set_cons_succ]
            refine held_take 6 (some 40) (v := ?_) rfl rfl (by kernel_rfl) (by kernel_rfl) (by kernel_rfl) (fun _ _ _ _ h => h) (by kernel_rfl) ?_ hHeld ?_
            rotate_left 1
            · intro w hSw; (try dsimp only at hSw); go_simp; (try with_reducible rfl)
            try simp only [List.foldl_cons, List.foldl_nil, List.length_cons, List.length_nil, Act.put, List.setIfInBounds_toArray, List.set_cons_zero, List.set_cons_succ]
            refine held_take 7 (some 41) (v := ?_) rfl rfl (by kernel_rfl) (by kernel_rfl) (by kernel_rfl) (fun _ _ _ _ h => h) (by kernel_rfl) ?_ hHeld ?_
            rotate_left 1
            · intro w hSw; (try dsimp only at hSw); go_simp; (try with_reducible rfl)
            try simp only [List.foldl_cons, List.foldl_nil, List.length_cons, List.length_nil, Act.put, List.setIfInBounds_toArray, List.set_cons_zero, List.set_cons_succ]
            refine held_take 8 (some 42) (v := ?_) rfl rfl (by kernel_rfl) (by kernel_rfl) (by kernel_rfl) (fun _ _ _ _ h => h) (by kernel_rfl) ?_ hHeld ?_
            rotate_left 1
            · intro w hSw; (try dsimp only at hSw); go_simp; (try with_reducible rfl)
            try simp only [List.foldl_cons, List.foldl_nil, List.length_cons, List.length_nil, Act.put, List.setIfInBounds_toArray, List.set_cons_zero, List.set_cons_succ]
            refine held_take 9 (some 43) (v := ?_) rfl rfl (by kernel_rfl) (by kernel_rfl) (by kernel_rfl) (fun _ _ _ _ h => h) (by kernel_rfl) ?_ hHeld ?_
            rotate_left 1
            · intro w hSw; (try dsimp only at hSw); go_simp; (try with_reducible rfl)
            try simp only [List.foldl_cons, List.foldl_nil, List.length_cons, List.length_nil, Act.put, List.setIfInBounds_toArray, List.set_cons_zero, List.set_cons_succ]
            refine held_take 10 (some 44) (v := ?_) rfl rfl (by kernel_rfl) (by kernel_rfl) (by kernel_rfl) (fun _ _ _ _ h => h) (by kernel_rfl) ?_ hHeld ?_
            rotate_left 1
            · intro w hSw; (try dsimp only at hSw); go_simp; (try with_reducible rfl)
            try simp only [List.foldl_cons, List.foldl_nil, List.length_cons, List.length_nil, Act.put, List.setIfInBounds_toArray, List.set_cons_zero, List.set_cons_succ]
            refine held_take 11 (some 45) (v := ?_) rfl rfl (by kernel_rfl) (by kernel_rfl) (by kernel_rfl) (fun _ _ _ _ h => h) (by kernel_rfl) ?_ hHeld ?_
            rotate_left 1
            · intro w hSw; (try dsimp only at hSw); go_simp; (try with_reducible rfl)
            try simp only [List.foldl_cons, List.foldl_nil, List.length_cons, List.length_nil, Act.put, List.setIfInBounds_toArray, List.set_cons_zero, List.set_cons_succ]
            refine held_take 12 (some 46) (v := ?_) rfl rfl (by kernel_rfl) (by kernel_rfl) (by kernel_rfl) (fun _ _ _ _ h => h) (by kernel_rfl) ?_ hHeld ?_
            rotate_left 1
            · intro w hSw; (try dsimp only at hSw); go_simp; (try with_reducible rfl)
            try simp only [List.foldl_cons, List.foldl_nil, List.length_cons, List.length_nil, Act.put, List.setIfInBounds_toArray, List.set_cons_zero, List.set_cons_succ]
            refine held_take 13 (some 47) (v := ?_) rfl rfl (by kernel_rfl) (by kernel_rfl) (by kernel_rfl) (fun _ _ _ _ h => h) (by kernel_rfl) ?_ hHeld ?_
            rotate_left 1
            · intro w hSw; (try dsimp only at hSw); go_simp; (try with_reducible rfl)
            try simp only [List.foldl_cons, List.foldl_nil, List.length_cons, List.length_nil, Act.put, List.setIfInBounds_toArray, List.set_cons_zero, List.set_cons_succ]
            refine held_take 14 (some 48) (v := ?_) rfl rfl (by kernel_rfl) (by kernel_rfl) (by kernel_rfl) (fun _ _ _ _ h => h) (by kernel_rfl) ?_ hHeld ?_
            rotate_left 1
            · intro w hSw; (try dsimp only at hSw); go_simp; (try with_reducible rfl)
            try simp only [List.foldl_cons, List.foldl_nil, List.length_cons, List.length_nil, Act.put, List.setIfInBounds_toArray, List.set_cons_zero, List.set_cons_succ]
            refine held_take 15 (some 49) (v := ?_) rfl rfl (by kernel_rfl) (by kernel_rfl) (by kernel_rfl) (fun _ _ _ _ h => h) (by kernel_rfl) ?_ hHeld ?_
            rotate_left 1
            · intro w hSw; (try dsimp only at hSw); go_simp; (try with_reducible rfl)
            try simp only [List.foldl_cons, List.foldl_nil, List.length_cons, List.length_nil, Act.put, List.setIfInBounds_toArray, List.set_cons_zero, List.set_cons_succ]
            refine held_take 16 (some 50) (v := ?_) rfl rfl (by kernel_rfl) (by kernel_rfl) (by kernel_rfl) (fun _ _ _ _ h => h) (by kernel_rfl) ?_ hHeld ?_
            rotate_left 1
            · intro w hSw; (try dsimp only at hSw); go_simp; (try with_reducible rfl)
            try simp only [List.foldl_cons, List.foldl_nil, List.length_cons, List.length_nil, Act.put, List.setIfInBounds_toArray, List.set_cons_zero, List.set_cons_succ]
            refine held_take 17 (some 51) (v := ?_) rfl rfl (by kernel_rfl) (by kernel_rfl) (by kernel_rfl) (fun _ _ _ _ h => h) (by kernel_rfl) ?_ hHeld ?_
            rotate_left 1
            · intro w hSw; (try dsimp only at hSw); go_simp; (try with_reducible rfl)
            try simp only [List.foldl_cons, List.foldl_nil, List.length_cons, List.length_nil, Act.put, List.setIfInBounds_toArray, List.set_cons_zero, List.set_cons_succ]
            refine wpAnyH_ready (rs := [18]) (by kernel_rfl) (by simp) ?_
            refine AllReadyH.cons rfl (fun K hK => ?_) AllReadyH.nil
            go_simp
            (go_at_call 18; refine (seenWith_any _ _ sj hh w.heap.size _ HRd.out hll hup).mono ?_; rintro e w4 ⟨v4, rfl, hr4, hb4⟩)
            go_wp2_with fail
            have hOld := hHeld
            clear hHeld
            refine hK.out _ _ ?_ (fun hHeld => ?_)
            · exact ⟨hOld.1.later hb4, cell_later hb4 hOld.2.1, cell_later hb4 hOld.2.2.1, cell_later hb4 hOld.2.2.2.1, cell_later hb4 hOld.2.2.2.2⟩
            clear hK K hOld
            try simp only [List.foldl_cons, List.foldl_nil, List.length_cons, List.length_nil, Act.put, List.setIfInBounds_toArray, List.set_cons_zero, List.set_cons_succ]
            refine held_take 19 (some 3) (v := ?_) rfl rfl (by kernel_rfl) (by kernel_rfl) (by kernel_rfl) (fun _ _ _ _ h => h) (by kernel_rfl) ?_ hHeld ?_
            rotate_left 1
            · intro w hSw; (try dsimp only at hSw); go_simp; (try with_reducible rfl)
            try simp only [List.foldl_cons, List.foldl_nil, List.length_cons, List.length_nil, Act.put, List.setIfInBounds_toArray, List.set_cons_zero, List.set_cons_succ]
            refine wpAnyH_done (by kernel_rfl) ?_ _
            go_wp2
            go_roundw
            case rel => exact ⟨j + 1, by omega, by go_num, by rw [HP.out]; exact owns_mono hr4 hsw, below_step (Nat.le_refl _) hbi.drew hb4⟩
            case measure => first | (simp [intOf]; done) | (simp [intOf]; omega)
          · obtain rfl : j = m := by omega
            go_wp2
            go_roundw
            case rel => exact ⟨k + 1, by omega, by go_num, by rw [HNext.out, HN2.out]; exact HR.out, hbw⟩
            case measure => first | (simp [intOf]; done) | (simp [intOf]; omega)
      · skip
        obtain ⟨L0, hL0⟩ : ∃ L0, L0 = without L1 rem.data.toList := ⟨_, rfl⟩
        have HN2 : Hid (stepL L1 sp = putsL sp L0 m) := Lib.hid (by unfold stepL; rw [HSn.out.2.1, HSn.out.1, HSn.out.2.2, hL0]; rfl)
        have hl0 : L0.length ≤ 12 * k := by rw [hL0]; exact Nat.le_trans (wo_le _ _) hml
        have hu0 : Up L0 := by rw [hL0]; exact without_up hmu _
        go_wp2_with (go_at_call 17; refine (without_any _ _ rem w.heap.size _ HR0.out (by omega)).mono ?_; rintro e w2 ⟨v2, rfl, hr2, hb2⟩)
        rw [← hL0] at hr2
        have HRow0 : Hid (SeenRow w2 w.heap.size v2 L0) := Lib.hid (owns_mono hr2 hsz)
        have q2' := cell_later hb2 q2
        have q3' := cell_later hb2 q3
        have HQ4' := Lib.hid (HQ4.out.below hb2)
        have HQ5' := Lib.hid (HQ5.out.below hb2)
        have hbel' := below_step (Nat.le_refl _) hbel hb2
        clear HR0 hL0 hml hmu q0 q1 HSn hr2 hb2 q2 q3 HQ4 HQ5 hbel hsz
        have q2 := q2'
        have q3 := q3'
        have HQ4 := HQ4'
        have HQ5 := HQ5'
        have hbel := hbel'
        clear q2' q3' HQ4' HQ5' hbel'
        have hsz := hbel.size
        go_wp2_with fail
        go_loopw [3, 5] (fun v i wr => ∃ j : Nat, j ≤ m ∧ i = .int .i64 j ∧ SeenRow wr w.heap.size v (putsL sp L0 j) ∧ Below w2.heap.size w2 wr) (fun _ i _ => m - (intOf i).toNat)
        case atStart => exact ⟨0, Nat.zero_le _, rfl, HRow0.out, Below.refl _ _⟩
        case round =>
          obtain ⟨j, hj, rfl, hrow, hbi⟩ := hrel
          have HR := Lib.hid hrow
          clear hrow
          have y2 := cell_later hbi q2
          have y3 := cell_later hbi q3
          have hbw := below_step (Nat.le_refl _) hbel hbi
          have hsw := hbw.size
          by_cases hltj : j < m
          · obtain ⟨an, rfl, hsn⟩ := strs_at HQ4.out hltj
            obtain ⟨ah, rfl, hin⟩ := IntsIn.at HQ5.out hltj
            have y4 := cell_later hbi hsn
            have y5 := cell_later hbi hin
            obtain ⟨e1, e2⟩ := HNm.out j
            have hj0 : (0 : Int) ≤ j := by omega
            have hjn : (j : Int) < m := by omega
            have HP : Hid (putsL sp L0 (j + 1) = ins (putsL sp L0 j) (S j).data.toList (Hh j)) := Lib.hid (by rw [← e1, ← e2]; rfl)
            have hll : (putsL sp L0 j).length ≤ 100000 := Nat.le_trans (puts_le sp L0 j) (by omega)
            have hup : Up (putsL sp L0 j) := puts_up HSP2.out hu0 j
            clear e1 e2 hsn hin
            obtain ⟨hh, hhe⟩ : ∃ hh, hh = Hh j := ⟨_, rfl⟩
            obtain ⟨sj, hse⟩ : ∃ sj, sj = S j := ⟨_, rfl⟩
            rw [← hhe] at y5 HP
            rw [← hse] at y4 HP
            clear hhe hse
            have HRd : Hid (SeenRow wr.drew w.heap.size u3 (putsL sp L0 j)) := HR
            go_wp2_with fail
            refine held_begin (S := fun w' => SeenRow w' w.heap.size u3 (putsL sp L0 j) ∧ w'.cell? ⟨(a.add (k * 4)).block, (a.add (k * 4)).off + 2, none⟩ = some (.slice (some an) m nc) ∧ w'.cell? ⟨(a.add (k * 4)).block, (a.add (k * 4)).off + 3, none⟩ = some (.slice (some ah) m hc) ∧ w'.cell? (an.add j) = some (.string sj) ∧ w'.cell? (ah.add j) = some (.int .i64 hh)) 20 (by rfl) (by kernel_rfl) ?_ (fun hHeld => ?_)
            · exact ⟨HR.out, by simpa using y2, by simpa using y3, by simpa using y4, by simpa using y5⟩
            refine held_take 0 (some 34) (v := ?_) rfl rfl (by kernel_rfl) (by kernel_rfl) (by kernel_rfl) (fun _ _ _ _ h => h) (by kernel_rfl) ?_ hHeld ?_
            rotate_left 1
            · intro w hSw; (try dsimp only at hSw); go_simp; (try with_reducible rfl)
            try simp only [List.foldl_cons, List.foldl_nil, List.length_cons, List.length_nil, Act.put, List.setIfInBounds_toArray, List.set_cons_zero, List.set_cons_succ]
            refine held_take 1 (some 35) (v := ?_) rfl rfl (by kernel_rfl) (by kernel_rfl) (by kernel_rfl) (fun _ _ _ _ h => h) (by kernel_rfl) ?_ hHeld ?_
            rotate_left 1
            · intro w hSw; (try dsimp only at hSw); go_simp; (try with_reducible rfl)
            try simp only [List.foldl_cons, List.foldl_nil, List.length_cons, List.length_nil, Act.put, List.setIfInBounds_toArray, List.set_cons_zero, List.set_cons_succ]
            refine held_take 2 (some 36) (v := ?_) rfl rfl (by kernel_rfl) (by kernel_rfl) (by kernel_rfl) (fun _ _ _ _ h => h) (by kernel_rfl) ?_ hHeld ?_
            rotate_left 1
            · intro w hSw; (try dsimp only at hSw); go_simp; (try with_reducible rfl)
            try simp only [List.foldl_cons, List.foldl_nil, List.length_cons, List.length_nil, Act.put, List.setIfInBounds_toArray, List.set_cons_zero, List.set_cons_succ]
            refine held_take 3 (some 37) (v := ?_) rfl rfl (by kernel_rfl) (by kernel_rfl) (by kernel_rfl) (fun _ _ _ _ h => h) (by kernel_rfl) ?_ hHeld ?_
            rotate_left 1
            · intro w hSw; (try dsimp only at hSw); go_simp; (try with_reducible rfl)
            try simp only [List.foldl_cons, List.foldl_nil, List.length_cons, List.length_nil, Act.put, List.setIfInBounds_toArray, List.set_cons_zero, List.set_cons_succ]
            refine held_take 4 (some 38) (v := ?_) rfl rfl (by kernel_rfl) (by kernel_rfl) (by kernel_rfl) (fun _ _ _ _ h => h) (by kernel_rfl) ?_ hHeld ?_
            rotate_left 1
            · intro w hSw; (try dsimp only at hSw); go_simp; (try with_reducible rfl)
            try simp only [List.foldl_cons, List.foldl_nil, List.length_cons, List.length_nil, Act.put, List.setIfInBounds_toArray, List.set_cons_zero, List.set_cons_succ]
            refine held_take 5 (some 39) (v := ?_) rfl rfl (by kernel_rfl) (by kernel_rfl) (by kernel_rfl) (fun _ _ _ _ h => h) (by kernel_rfl) ?_ hHeld ?_
            rotate_left 1
            · intro w hSw; (try dsimp only at hSw); go_simp; (try with_reducible rfl)
            try simp only [List.foldl_cons, List.foldl_nil, List.length_cons, List.length_nil, Act.put, List.setIfInBounds_toArray, List.set_cons_zero, List.set_cons_succ]
            refine held_take 6 (some 40) (v := ?_) rfl rfl (by kernel_rfl) (by kernel_rfl) (by kernel_rfl) (fun _ _ _ _ h => h) (by kernel_rfl) ?_ hHeld ?_
            rotate_left 1
            · intro w hSw; (try dsimp only at hSw); go_simp; (try with_reducible rfl)
            try simp only [List.foldl_cons, List.foldl_nil, List.length_cons, List.length_nil, Act.put, List.setIfInBounds_toArray, List.set_cons_zero, List.set_cons_succ]
            refine held_take 7 (some 41) (v := ?_) rfl rfl (by kernel_rfl) (by kernel_rfl) (by kernel_rfl) (fun _ _ _ _ h => h) (by kernel_rfl) ?_ hHeld ?_
            rotate_left 1
            · intro w hSw; (try dsimp only at hSw); go_simp; (try with_reducible rfl)
            try simp only [List.foldl_cons, List.foldl_nil, List.length_cons, List.length_nil, Act.put, List.setIfInBounds_toArray, List.set_cons_zero, List.set_cons_succ]
            refine held_take 8 (some 42) (v := ?_) rfl rfl (by kernel_rfl) (by kernel_rfl) (by kernel_rfl) (fun _ _ _ _ h => h) (by kernel_rfl) ?_ hHeld ?_
            rotate_left 1
            · intro w hSw; (try dsimp only at hSw); go_simp; (try with_reducible rfl)
            try simp only [List.foldl_cons, List.foldl_nil, List.length_cons, List.length_nil, Act.put, List.setIfInBounds_toArray, List.set_cons_zero, List.set_cons_succ]
            refine held_take 9 (some 43) (v := ?_) rfl rfl (by kernel_rfl) (by kernel_rfl) (by kernel_rfl) (fun _ _ _ _ h => h) (by kernel_rfl) ?_ hHeld ?_
            rotate_left 1
            · intro w hSw; (try dsimp only at hSw); go_simp; (try with_reducible rfl)
            try simp only [List.foldl_cons, List.foldl_nil, List.length_cons, List.length_nil, Act.put, List.setIfInBounds_toArray, List.set_cons_zero, List.set_cons_succ]
            refine held_take 10 (some 44) (v := ?_) rfl rfl (by kernel_rfl) (by kernel_rfl) (by kernel_rfl) (fun _ _ _ _ h => h) (by kernel_rfl) ?_ hHeld ?_
            rotate_left 1
            · intro w hSw; (try dsimp only at hSw); go_simp; (try with_reducible rfl)
            try simp only [List.foldl_cons, List.foldl_nil, List.length_cons, List.length_nil, Act.put, List.setIfInBounds_toArray, List.set_cons_zero, List.set_cons_succ]
            refine held_take 11 (some 45) (v := ?_) rfl rfl (by kernel_rfl) (by kernel_rfl) (by kernel_rfl) (fun _ _ _ _ h => h) (by kernel_rfl) ?_ hHeld ?_
            rotate_left 1
            · intro w hSw; (try dsimp only at hSw); go_simp; (try with_reducible rfl)
            try simp only [List.foldl_cons, List.foldl_nil, List.length_cons, List.length_nil, Act.put, List.setIfInBounds_toArray, List.set_cons_zero, List.set_cons_succ]
            refine held_take 12 (some 46) (v := ?_) rfl rfl (by kernel_rfl) (by kernel_rfl) (by kernel_rfl) (fun _ _ _ _ h => h) (by kernel_rfl) ?_ hHeld ?_
            rotate_left 1
            · intro w hSw; (try dsimp only at hSw); go_simp; (try with_reducible rfl)
            try simp only [List.foldl_cons, List.foldl_nil, List.length_cons, List.length_nil, Act.put, List.setIfInBounds_toArray, List.set_cons_zero, List.set_cons_succ]
            refine held_take 13 (some 47) (v := ?_) rfl rfl (by kernel_rfl) (by kernel_rfl) (by kernel_rfl) (fun _ _ _ _ h => h) (by kernel_rfl) ?_ hHeld ?_
            rotate_left 1
            · intro w hSw; (try dsimp only at hSw); go_simp; (try with_reducible rfl)
            try simp only [List.foldl_cons, List.foldl_nil, List.length_cons, List.length_nil, Act.put, List.setIfInBounds_toArray, List.set_cons_zero, List.set_cons_succ]
            refine held_take 14 (some 48) (v := ?_) rfl rfl (by kernel_rfl) (by kernel_rfl) (by kernel_rfl) (fun _ _ _ _ h => h) (by kernel_rfl) ?_ hHeld ?_
            rotate_left 1
            · intro w hSw; (try dsimp only at hSw); go_simp; (try with_reducible rfl)
            try simp only [List.foldl_cons, List.foldl_nil, List.length_cons, List.length_nil, Act.put, List.setIfInBounds_toArray, List.set_cons_zero, List.set_cons_succ]
            refine held_take 15 (some 49) (v := ?_) rfl rfl (by kernel_rfl) (by kernel_rfl) (by kernel_rfl) (fun _ _ _ _ h => h) (by kernel_rfl) ?_ hHeld ?_
            rotate_left 1
            · intro w hSw; (try dsimp only at hSw); go_simp; (try with_reducible rfl)
            try simp only [List.foldl_cons, List.foldl_nil, List.length_cons, List.length_nil, Act.put, List.setIfInBounds_toArray, List.set_cons_zero, List.set_cons_succ]
            refine held_take 16 (some 50) (v := ?_) rfl rfl (by kernel_rfl) (by kernel_rfl) (by kernel_rfl) (fun _ _ _ _ h => h) (by kernel_rfl) ?_ hHeld ?_
            rotate_left 1
            · intro w hSw; (try dsimp only at hSw); go_simp; (try with_reducible rfl)
            try simp only [List.foldl_cons, List.foldl_nil, List.length_cons, List.length_nil, Act.put, List.setIfInBounds_toArray, List.set_cons_zero, List.set_cons_succ]
            refine held_take 17 (some 51) (v := ?_) rfl rfl (by kernel_rfl) (by kernel_rfl) (by kernel_rfl) (fun _ _ _ _ h => h) (by kernel_rfl) ?_ hHeld ?_
            rotate_left 1
            · intro w hSw; (try dsimp only at hSw); go_simp; (try with_reducible rfl)
            try simp only [List.foldl_cons, List.foldl_nil, List.length_cons, List.length_nil, Act.put, List.setIfInBounds_toArray, List.set_cons_zero, List.set_cons_succ]
            refine wpAnyH_ready (rs := [18]) (by kernel_rfl) (by simp) ?_
            refine AllReadyH.cons rfl (fun K hK => ?_) AllReadyH.nil
            go_simp
            (go_at_call 18; refine (seenWith_any _ _ sj hh w.heap.size _ HRd.out hll hup).mono ?_; rintro e w4 ⟨v4, rfl, hr4, hb4⟩)
            go_wp2_with fail
            have hOld := hHeld
            clear hHeld
            refine hK.out _ _ ?_ (fun hHeld => ?_)
            · exact ⟨hOld.1.later hb4, cell_later hb4 hOld.2.1, cell_later hb4 hOld.2.2.1, cell_later hb4 hOld.2.2.2.1, cell_later hb4 hOld.2.2.2.2⟩
            clear hK K hOld
            try simp only [List.foldl_cons, List.foldl_nil, List.length_cons, List.length_nil, Act.put, List.setIfInBounds_toArray, List.set_cons_zero, List.set_cons_succ]
            refine held_take 19 (some 3) (v := ?_) rfl rfl (by kernel_rfl) (by kernel_rfl) (by kernel_rfl) (fun _ _ _ _ h => h) (by kernel_rfl) ?_ hHeld ?_
            rotate_left 1
            · intro w hSw; (try dsimp only at hSw); go_simp; (try with_reducible rfl)
            try simp only [List.foldl_cons, List.foldl_nil, List.length_cons, List.length_nil, Act.put, List.setIfInBounds_toArray, List.set_cons_zero, List.set_cons_succ]
            refine wpAnyH_done (by kernel_rfl) ?_ _
            go_wp2
            go_roundw
            case rel => exact ⟨j + 1, by omega, by go_num, by rw [HP.out]; exact owns_mono hr4 hsw, below_step (Nat.le_refl _) hbi.drew hb4⟩
            case measure => first | (simp [intOf]; done) | (simp [intOf]; omega)
          · obtain rfl : j = m := by omega
            go_wp2
            go_roundw
            case rel => exact ⟨k + 1, by omega, by go_num, by rw [HNext.out, HN2.out]; exact HR.out, hbw⟩
            case measure => first | (simp [intOf]; done) | (simp [intOf]; omega)
    · obtain rfl : k = len := by omega
      go_wp2
      go_ret
      exact ⟨_, rfl, HR0.out, hbel⟩
end Go.Proofs.YtbdadgkjiondgaaDoor.see
