/-
  FnSeen, FnStepsRemoved: the specification's field laid into its list.
-/
import Derived.Test.YtbdadgkjiondgaaDoorSeeSpec
import Derived.Sort.OwnSorted
namespace Go.Proofs.YtbdadgkjiondgaaDoor.see
open Go.RowKit Go.Maps Go.WideMaps Go.Sort
set_option linter.unusedSimpArgs false
set_option linter.unusedVariables false

def st (L : Fl) (x : Nm) (h : Int) (k : Nat) : Fl × Bool × Int := (L.take k).foldl (swStep x) ([], false, h)

theorem st_succ {L : Fl} {x : Nm} {h : Int} {k : Nat} {a : Nm × Int} (hat : L[k]? = some a) : st L x h (k + 1) = swStep x (st L x h k) a := by
  unfold st
  rw [List.take_add_one, hat, List.foldl_append]
  rfl

theorem less_true {a b : ByteArray} (h : a.data.toList < b.data.toList) : Op.bytesLess a.toList b.toList = true := by
  rw [ByteArray.toList_eq, ByteArray.toList_eq, bytesLess_eq]; simpa using h
theorem less_false {a b : ByteArray} (h : ¬ a.data.toList < b.data.toList) : Op.bytesLess a.toList b.toList = false := by
  rw [ByteArray.toList_eq, ByteArray.toList_eq, bytesLess_eq]; simpa using h

theorem two_seen (x s : ByteArray) (c d : Int) : seenCells [(x.data.toList, c), (s.data.toList, d)] = [.string x, .int .i64 c] ++ [.string s, .int .i64 d] := by
  show [Value.string ⟨x.data.toList.toArray⟩, .int .i64 c, Value.string ⟨s.data.toList.toArray⟩, .int .i64 d] = _
  simp

theorem eq_of_same {s x : ByteArray} (h : s.data.toList = x.data.toList) : s = x := bytes_eq h

set_option maxRecDepth 100000 in
set_option maxHeartbeats 3200000 in
theorem seenWith_any (v : Value) (L : Fl) (x : ByteArray) (h : Int) (B : Nat) (w : World) (hv : SeenRow w B v L) (hlen : L.length ≤ 100000) (hup : Up L) :
    Calls Tryd.prog 18 #[v, .agg #[.string x, .int .i64 h]] w fun e w' => ∃ v', e = .returned v' ∧ SeenRow w' w.heap.size v' (ins L x.data.toList h) ∧ Below w.heap.size w w' := by
  obtain ⟨ao, cp, rfl⟩ := owns_slice hv
  have HL := Lib.hid hv
  have HFin := Lib.hid (sw_all hup x.data.toList [] h)
  clear hv hup
  have hb0 : Below w.heap.size w (w.alloc (.cells #[.string x, .int .i64 h] 31)) := by go_grown
  go_enter Tryd.func18, Tryd.ntmps18
  go_wp2_with fail
  go_loopw [5, 6, 7] (fun v p i wr => ∃ (k : Nat) (s3 : Fl × Bool × Int), k ≤ L.length ∧ i = .int .i64 k ∧ st L x.data.toList h k = s3 ∧ p = .bool s3.2.1 ∧ wr.heap[w.heap.size]? = some (.cells #[.string x, .int .i64 s3.2.2] 31 (0, 0)) ∧ SeenRow wr (w.heap.size + 1) v s3.1 ∧ Below w.heap.size w wr ∧ w.heap.size + 1 ≤ wr.heap.size ∧ s3.1.length ≤ 2 * k) (fun _ _ i _ => L.length - (intOf i).toNat)
  case atStart => exact ⟨0, ([], false, h), Nat.zero_le _, rfl, rfl, rfl, block_new _ _, World.ownsRow_nil _ _ _ _, hb0, by simp, by simp⟩
  case round =>
    obtain ⟨k, ⟨out, pl, h'⟩, hk, rfl, hst, rfl, hbox, hrow, hbel, hsz, hle⟩ := hrel
    simp only at hbox hrow hle
    have HB := Lib.hid hbox
    obtain ⟨m, hm⟩ : ∃ m : Nat, m = out.length := ⟨_, rfl⟩
    have hrow' : wr.ownsRow (w.heap.size + 1) 31 2 u5 m (seenCells out) := by rw [hm]; exact hrow
    rw [← hm] at hle
    have HM := Lib.hid hm
    have HR' := Lib.hid hrow'
    have hsw := hbel.size
    have b0 := cell_of_block (i := 0) hbox rfl
    have b1 := cell_of_block (i := 1) hbox rfl
    clear hrow hm hrow' hbox
    by_cases hlt : k < L.length
    · obtain ⟨g, cap, s, c, hv, hat, c0, c1⟩ := HL.out.at hlt
      obtain ⟨rfl, -, rfl⟩ := slice_inj hv
      have d0 := cell_later hbel c0
      have d1 := cell_later hbel c1
      have hst2 := st_succ (x := x.data.toList) (h := h) hat
      rw [hst] at hst2
      have HC0 := Lib.hid c0
      have HC1 := Lib.hid c1
      clear hv hat c0 c1 hst
      obtain ⟨ao2, cp2, rfl⟩ := owns_slice HR'.out
      cases pl
      · by_cases hs : s = x
        · have hlt2 : ¬ s.data.toList < x.data.toList := by rw [hs]; exact List.lt_irrefl _
          have hls := less_false hlt2
          have hsm := seq_true hs
          by_cases hh : h' = 0
          · subst hh
            have HST : Hid (st L x.data.toList h (k + 1) = (out ++ [(x.data.toList, c)], true, c)) := Lib.hid (by rw [hst2, hs]; simp [swStep, List.lt_irrefl])
            clear hst2 hs hlt2
            have z1 := free_of_block (w := wr.drew.drew) (i := 1) HB.out
            have e0 : ((wr.drew.drew).setCell ⟨w.heap.size, 1, none⟩ (.int .i64 c)).cell? ⟨w.heap.size, 0, none⟩ = some (.string x) := cell_of_block (block_setCell (w := wr.drew.drew) HB.out) rfl
            have e1 : ((wr.drew.drew).setCell ⟨w.heap.size, 1, none⟩ (.int .i64 c)).cell? ⟨w.heap.size, 1, none⟩ = some (.int .i64 c) := cell_of_block (block_setCell (w := wr.drew.drew) HB.out) rfl
            go_wp2_with fail
            refine held_begin (S := fun w' => w'.cell? ⟨g, k * 2, none⟩ = some (.string s) ∧ w'.cell? ⟨w.heap.size, 0, none⟩ = some (.string x) ∧ w'.cell? ⟨w.heap.size, 1, none⟩ = some (.int .i64 0)) 12 (by rfl) (by kernel_rfl) ?_ (fun hHeld => ?_)
            · exact ⟨by simpa using d0, by simpa using b0, by simpa using b1⟩
            refine held_take 0 (some 14) (v := ?_) rfl rfl (by kernel_rfl) (by kernel_rfl) (by kernel_rfl) (fun _ _ _ _ h => h) (by kernel_rfl) ?_ hHeld ?_
            rotate_left 1
            · intro w hSw; (try dsimp only at hSw); go_simp; (try with_reducible rfl)
            try simp only [List.foldl_cons, List.foldl_nil, List.length_cons, List.length_nil, Act.put, List.setIfInBounds_toArray, List.set_cons_zero, List.set_cons_succ]
            refine held_take 1 (some 15) (v := ?_) rfl rfl (by kernel_rfl) (by kernel_rfl) (by kernel_rfl) (fun _ _ _ _ h => h) (by kernel_rfl) ?_ hHeld ?_
            rotate_left 1
            · intro w hSw; (try dsimp only at hSw); go_simp; (try with_reducible rfl)
            try simp only [List.foldl_cons, List.foldl_nil, List.length_cons, List.length_nil, Act.put, List.setIfInBounds_toArray, List.set_cons_zero, List.set_cons_succ]
            refine held_take 2 (some 16) (v := ?_) rfl rfl (by kernel_rfl) (by kernel_rfl) (by kernel_rfl) (fun _ _ _ _ h => h) (by kernel_rfl) ?_ hHeld ?_
            rotate_left 1
            · intro w hSw; (try dsimp only at hSw); go_simp; (try with_reducible rfl)
            try simp only [List.foldl_cons, List.foldl_nil, List.length_cons, List.length_nil, Act.put, List.setIfInBounds_toArray, List.set_cons_zero, List.set_cons_succ]
            refine held_take 3 (some 17) (v := ?_) rfl rfl (by kernel_rfl) (by kernel_rfl) (by kernel_rfl) (fun _ _ _ _ h => h) (by kernel_rfl) ?_ hHeld ?_
            rotate_left 1
            · intro w hSw; (try dsimp only at hSw); go_simp; (try with_reducible rfl)
            try simp only [List.foldl_cons, List.foldl_nil, List.length_cons, List.length_nil, Act.put, List.setIfInBounds_toArray, List.set_cons_zero, List.set_cons_succ]
            refine held_take 4 (some 18) (v := ?_) rfl rfl (by kernel_rfl) (by kernel_rfl) (by kernel_rfl) (fun _ _ _ _ h => h) (by kernel_rfl) ?_ hHeld ?_
            rotate_left 1
            · intro w hSw; (try dsimp only at hSw); go_simp; (try with_reducible rfl)
            try simp only [List.foldl_cons, List.foldl_nil, List.length_cons, List.length_nil, Act.put, List.setIfInBounds_toArray, List.set_cons_zero, List.set_cons_succ]
            refine held_take 5 (some 19) (v := ?_) rfl rfl (by kernel_rfl) (by kernel_rfl) (by kernel_rfl) (fun _ _ _ _ h => h) (by kernel_rfl) ?_ hHeld ?_
            rotate_left 1
            · intro w hSw; (try dsimp only at hSw); go_simp; (try with_reducible rfl)
            try simp only [List.foldl_cons, List.foldl_nil, List.length_cons, List.length_nil, Act.put, List.setIfInBounds_toArray, List.set_cons_zero, List.set_cons_succ]
            refine held_take 6 (some 20) (v := ?_) rfl rfl (by kernel_rfl) (by kernel_rfl) (by kernel_rfl) (fun _ _ _ _ h => h) (by kernel_rfl) ?_ hHeld ?_
            rotate_left 1
            · intro w hSw; (try dsimp only at hSw); go_simp; (try with_reducible rfl)
            try simp only [List.foldl_cons, List.foldl_nil, List.length_cons, List.length_nil, Act.put, List.setIfInBounds_toArray, List.set_cons_zero, List.set_cons_succ]
            refine held_take 7 (some 21) (v := ?_) rfl rfl (by kernel_rfl) (by kernel_rfl) (by kernel_rfl) (fun _ _ _ _ h => h) (by kernel_rfl) ?_ hHeld ?_
            rotate_left 1
            · intro w hSw; (try dsimp only at hSw); go_simp; (try with_reducible rfl)
            try simp only [List.foldl_cons, List.foldl_nil, List.length_cons, List.length_nil, Act.put, List.setIfInBounds_toArray, List.set_cons_zero, List.set_cons_succ]
            refine held_take 8 (some 22) (v := ?_) rfl rfl (by kernel_rfl) (by kernel_rfl) (by kernel_rfl) (fun _ _ _ _ h => h) (by kernel_rfl) ?_ hHeld ?_
            rotate_left 1
            · intro w hSw; (try dsimp only at hSw); go_simp; (try with_reducible rfl)
            try simp only [List.foldl_cons, List.foldl_nil, List.length_cons, List.length_nil, Act.put, List.setIfInBounds_toArray, List.set_cons_zero, List.set_cons_succ]
            refine held_take 9 (some 23) (v := ?_) rfl rfl (by kernel_rfl) (by kernel_rfl) (by kernel_rfl) (fun _ _ _ _ h => h) (by kernel_rfl) ?_ hHeld ?_
            rotate_left 1
            · intro w hSw; (try dsimp only at hSw); go_simp; (try with_reducible rfl)
            try simp only [List.foldl_cons, List.foldl_nil, List.length_cons, List.length_nil, Act.put, List.setIfInBounds_toArray, List.set_cons_zero, List.set_cons_succ]
            refine held_take 10 (some 24) (v := ?_) rfl rfl (by kernel_rfl) (by kernel_rfl) (by kernel_rfl) (fun _ _ _ _ h => h) (by kernel_rfl) ?_ hHeld ?_
            rotate_left 1
            · intro w hSw; (try dsimp only at hSw); go_simp; (try with_reducible rfl)
            try simp only [List.foldl_cons, List.foldl_nil, List.length_cons, List.length_nil, Act.put, List.setIfInBounds_toArray, List.set_cons_zero, List.set_cons_succ]
            refine held_take 11 (some 25) (v := ?_) rfl rfl (by kernel_rfl) (by kernel_rfl) (by kernel_rfl) (fun _ _ _ _ h => h) (by kernel_rfl) ?_ hHeld ?_
            rotate_left 1
            · intro w hSw; (try dsimp only at hSw); go_simp; (try with_reducible rfl)
            try simp only [List.foldl_cons, List.foldl_nil, List.length_cons, List.length_nil, Act.put, List.setIfInBounds_toArray, List.set_cons_zero, List.set_cons_succ]
            refine wpAnyH_done (by kernel_rfl) ?_ _
            go_wp2_with fail
            refine held_begin (S := fun w' => w'.cell? ⟨g, k * 2, none⟩ = some (.string s) ∧ w'.cell? ⟨w.heap.size, 0, none⟩ = some (.string x) ∧ w'.cell? ⟨w.heap.size, 1, none⟩ = some (.int .i64 0)) 13 (by rfl) (by kernel_rfl) ?_ (fun hHeld => ?_)
            · exact ⟨hHeld.1, hHeld.2.1, hHeld.2.2⟩
            refine held_take 0 (some 26) (v := ?_) rfl rfl (by kernel_rfl) (by kernel_rfl) (by kernel_rfl) (fun _ _ _ _ h => h) (by kernel_rfl) ?_ hHeld ?_
            rotate_left 1
            · intro w hSw; (try dsimp only at hSw); go_simp; (try with_reducible rfl)
            try simp only [List.foldl_cons, List.foldl_nil, List.length_cons, List.length_nil, Act.put, List.setIfInBounds_toArray, List.set_cons_zero, List.set_cons_succ]
            refine held_take 1 (some 27) (v := ?_) rfl rfl (by kernel_rfl) (by kernel_rfl) (by kernel_rfl) (fun _ _ _ _ h => h) (by kernel_rfl) ?_ hHeld ?_
            rotate_left 1
            · intro w hSw; (try dsimp only at hSw); go_simp; (try with_reducible rfl)
            try simp only [List.foldl_cons, List.foldl_nil, List.length_cons, List.length_nil, Act.put, List.setIfInBounds_toArray, List.set_cons_zero, List.set_cons_succ]
            refine held_take 2 (some 28) (v := ?_) rfl rfl (by kernel_rfl) (by kernel_rfl) (by kernel_rfl) (fun _ _ _ _ h => h) (by kernel_rfl) ?_ hHeld ?_
            rotate_left 1
            · intro w hSw; (try dsimp only at hSw); go_simp; (try with_reducible rfl)
            try simp only [List.foldl_cons, List.foldl_nil, List.length_cons, List.length_nil, Act.put, List.setIfInBounds_toArray, List.set_cons_zero, List.set_cons_succ]
            refine held_take 3 (some 29) (v := ?_) rfl rfl (by kernel_rfl) (by kernel_rfl) (by kernel_rfl) (fun _ _ _ _ h => h) (by kernel_rfl) ?_ hHeld ?_
            rotate_left 1
            · intro w hSw; (try dsimp only at hSw); go_simp; (try with_reducible rfl)
            try simp only [List.foldl_cons, List.foldl_nil, List.length_cons, List.length_nil, Act.put, List.setIfInBounds_toArray, List.set_cons_zero, List.set_cons_succ]
            refine held_take 4 (some 30) (v := ?_) rfl rfl (by kernel_rfl) (by kernel_rfl) (by kernel_rfl) (fun _ _ _ _ h => h) (by kernel_rfl) ?_ hHeld ?_
            rotate_left 1
            · intro w hSw; (try dsimp only at hSw); go_simp; (try with_reducible rfl)
            try simp only [List.foldl_cons, List.foldl_nil, List.length_cons, List.length_nil, Act.put, List.setIfInBounds_toArray, List.set_cons_zero, List.set_cons_succ]
            refine held_take 5 (some 31) (v := ?_) rfl rfl (by kernel_rfl) (by kernel_rfl) (by kernel_rfl) (fun _ _ _ _ h => h) (by kernel_rfl) ?_ hHeld ?_
            rotate_left 1
            · intro w hSw; (try dsimp only at hSw); go_simp; (try with_reducible rfl)
            try simp only [List.foldl_cons, List.foldl_nil, List.length_cons, List.length_nil, Act.put, List.setIfInBounds_toArray, List.set_cons_zero, List.set_cons_succ]
            refine held_take 6 (some 32) (v := ?_) rfl rfl (by kernel_rfl) (by kernel_rfl) (by kernel_rfl) (fun _ _ _ _ h => h) (by kernel_rfl) ?_ hHeld ?_
            rotate_left 1
            · intro w hSw; (try dsimp only at hSw); go_simp; (try with_reducible rfl)
            try simp only [List.foldl_cons, List.foldl_nil, List.length_cons, List.length_nil, Act.put, List.setIfInBounds_toArray, List.set_cons_zero, List.set_cons_succ]
            refine held_take 7 (some 33) (v := ?_) rfl rfl (by kernel_rfl) (by kernel_rfl) (by kernel_rfl) (fun _ _ _ _ h => h) (by kernel_rfl) ?_ hHeld ?_
            rotate_left 1
            · intro w hSw; (try dsimp only at hSw); go_simp; (try with_reducible rfl)
            try simp only [List.foldl_cons, List.foldl_nil, List.length_cons, List.length_nil, Act.put, List.setIfInBounds_toArray, List.set_cons_zero, List.set_cons_succ]
            refine held_take 8 (some 34) (v := ?_) rfl rfl (by kernel_rfl) (by kernel_rfl) (by kernel_rfl) (fun _ _ _ _ h => h) (by kernel_rfl) ?_ hHeld ?_
            rotate_left 1
            · intro w hSw; (try dsimp only at hSw); go_simp; (try with_reducible rfl)
            try simp only [List.foldl_cons, List.foldl_nil, List.length_cons, List.length_nil, Act.put, List.setIfInBounds_toArray, List.set_cons_zero, List.set_cons_succ]
            refine held_take 9 (some 35) (v := ?_) rfl rfl (by kernel_rfl) (by kernel_rfl) (by kernel_rfl) (fun _ _ _ _ h => h) (by kernel_rfl) ?_ hHeld ?_
            rotate_left 1
            · intro w hSw; (try dsimp only at hSw); go_simp; (try with_reducible rfl)
            try simp only [List.foldl_cons, List.foldl_nil, List.length_cons, List.length_nil, Act.put, List.setIfInBounds_toArray, List.set_cons_zero, List.set_cons_succ]
            refine held_take 10 (some 36) (v := ?_) rfl rfl (by kernel_rfl) (by kernel_rfl) (by kernel_rfl) (fun _ _ _ _ h => h) (by kernel_rfl) ?_ hHeld ?_
            rotate_left 1
            · intro w hSw; (try dsimp only at hSw); go_simp; (try with_reducible rfl)
            try simp only [List.foldl_cons, List.foldl_nil, List.length_cons, List.length_nil, Act.put, List.setIfInBounds_toArray, List.set_cons_zero, List.set_cons_succ]
            refine held_take 11 (some 37) (v := ?_) rfl rfl (by kernel_rfl) (by kernel_rfl) (by kernel_rfl) (fun _ _ _ _ h => h) (by kernel_rfl) ?_ hHeld ?_
            rotate_left 1
            · intro w hSw; (try dsimp only at hSw); go_simp; (try with_reducible rfl)
            try simp only [List.foldl_cons, List.foldl_nil, List.length_cons, List.length_nil, Act.put, List.setIfInBounds_toArray, List.set_cons_zero, List.set_cons_succ]
            refine held_take 12 (some 38) (v := ?_) rfl rfl (by kernel_rfl) (by kernel_rfl) (by kernel_rfl) (fun _ _ _ _ h => h) (by kernel_rfl) ?_ hHeld ?_
            rotate_left 1
            · intro w hSw; (try dsimp only at hSw); go_simp; (try with_reducible rfl)
            try simp only [List.foldl_cons, List.foldl_nil, List.length_cons, List.length_nil, Act.put, List.setIfInBounds_toArray, List.set_cons_zero, List.set_cons_succ]
            refine wpAnyH_done (by kernel_rfl) ?_ _
            go_wp2_with (at_builtin; refine wpList_append_run rfl (.tmp 45) (.tmp 47) 28 rfl (appS (wr := ((wr.drew.drew).setCell ⟨w.heap.size, 1, none⟩ (.int .i64 c))) (B := w.heap.size + 1) 28 28 31 Tryd.underlying28 infoSeen rfl (by decide) (own_set (w := wr.drew.drew) HR'.out (a := ⟨w.heap.size, 1, none⟩) (by simp) (.int .i64 c)) (by first | omega | (simp; omega)) (grown_of_below (Below.alloc (Below.refl _ _) (Nat.le_refl _) _)) (by omega) (by omega) [.string x, .int .i64 c] rfl (by intro u hu; simp at hu; rcases hu with rfl | rfl <;> rfl) _ _ (cells_new (by simp))) ?_; rintro v2 w2 ⟨hown2, hg, hbb⟩; have HO2 := Lib.hid hown2; have HG2 := Lib.hid hg; have HBB2 := Lib.hid hbb; clear hown2 hg hbb)
            have hbox2 := block_grown (block_alloc (w := ((wr.drew.drew).setCell ⟨w.heap.size, 1, none⟩ (.int .i64 c))) (block_setCell (w := wr.drew.drew) HB.out) (.cells #[.string x, .int .i64 c] 31)) HG2.out (row_ne_low HR'.out (by omega))
            have hB2 : Below w.heap.size w w2 := (((hbel.drew.drew).setCell (p := ⟨w.heap.size, 1, none⟩) (by simp) (.int .i64 c)).alloc (by first | omega | (simp; omega)) _).grown HG2.out (by simp; omega) (fun b hb => by have := (HBB2.out b hb).1; omega)
            have hs2 : w.heap.size + 1 ≤ w2.heap.size := by have := HG2.out.size; simp at this; omega
            have f0 := cell_later hB2 HC0.out
            have f3 := cell_later hB2 HC1.out
            have f1 := cell_of_block (i := 0) hbox2 rfl
            have f2 := cell_of_block (i := 1) hbox2 rfl
            have HBox2 := Lib.hid hbox2
            clear hbox2
            go_wp2_with fail
            refine held_begin (S := fun w' => w'.cell? ⟨g, k * 2, none⟩ = some (.string s) ∧ w'.cell? ⟨w.heap.size, 0, none⟩ = some (.string x) ∧ w'.cell? ⟨w.heap.size, 1, none⟩ = some (.int .i64 c)) 8 (by rfl) (by kernel_rfl) ?_ (fun hHeld => ?_)
            · exact ⟨by simpa using f0, by simpa using f1, by simpa using f2⟩
            refine held_take 0 (some 49) (v := ?_) rfl rfl (by kernel_rfl) (by kernel_rfl) (by kernel_rfl) (fun _ _ _ _ h => h) (by kernel_rfl) ?_ hHeld ?_
            rotate_left 1
            · intro w hSw; (try dsimp only at hSw); go_simp; (try with_reducible rfl)
            try simp only [List.foldl_cons, List.foldl_nil, List.length_cons, List.length_nil, Act.put, List.setIfInBounds_toArray, List.set_cons_zero, List.set_cons_succ]
            refine held_take 1 (some 50) (v := ?_) rfl rfl (by kernel_rfl) (by kernel_rfl) (by kernel_rfl) (fun _ _ _ _ h => h) (by kernel_rfl) ?_ hHeld ?_
            rotate_left 1
            · intro w hSw; (try dsimp only at hSw); go_simp; (try with_reducible rfl)
            try simp only [List.foldl_cons, List.foldl_nil, List.length_cons, List.length_nil, Act.put, List.setIfInBounds_toArray, List.set_cons_zero, List.set_cons_succ]
            refine held_take 2 (some 51) (v := ?_) rfl rfl (by kernel_rfl) (by kernel_rfl) (by kernel_rfl) (fun _ _ _ _ h => h) (by kernel_rfl) ?_ hHeld ?_
            rotate_left 1
            · intro w hSw; (try dsimp only at hSw); go_simp; (try with_reducible rfl)
            try simp only [List.foldl_cons, List.foldl_nil, List.length_cons, List.length_nil, Act.put, List.setIfInBounds_toArray, List.set_cons_zero, List.set_cons_succ]
            refine held_take 3 (some 52) (v := ?_) rfl rfl (by kernel_rfl) (by kernel_rfl) (by kernel_rfl) (fun _ _ _ _ h => h) (by kernel_rfl) ?_ hHeld ?_
            rotate_left 1
            · intro w hSw; (try dsimp only at hSw); go_simp; (try with_reducible rfl)
            try simp only [List.foldl_cons, List.foldl_nil, List.length_cons, List.length_nil, Act.put, List.setIfInBounds_toArray, List.set_cons_zero, List.set_cons_succ]
            refine held_take 4 (some 53) (v := ?_) rfl rfl (by kernel_rfl) (by kernel_rfl) (by kernel_rfl) (fun _ _ _ _ h => h) (by kernel_rfl) ?_ hHeld ?_
            rotate_left 1
            · intro w hSw; (try dsimp only at hSw); go_simp; (try with_reducible rfl)
            try simp only [List.foldl_cons, List.foldl_nil, List.length_cons, List.length_nil, Act.put, List.setIfInBounds_toArray, List.set_cons_zero, List.set_cons_succ]
            refine held_take 5 (some 54) (v := ?_) rfl rfl (by kernel_rfl) (by kernel_rfl) (by kernel_rfl) (fun _ _ _ _ h => h) (by kernel_rfl) ?_ hHeld ?_
            rotate_left 1
            · intro w hSw; (try dsimp only at hSw); go_simp; (try with_reducible rfl)
            try simp only [List.foldl_cons, List.foldl_nil, List.length_cons, List.length_nil, Act.put, List.setIfInBounds_toArray, List.set_cons_zero, List.set_cons_succ]
            refine held_take 6 (some 55) (v := ?_) rfl rfl (by kernel_rfl) (by kernel_rfl) (by kernel_rfl) (fun _ _ _ _ h => h) (by kernel_rfl) ?_ hHeld ?_
            rotate_left 1
            · intro w hSw; (try dsimp only at hSw); go_simp; (try with_reducible rfl)
            try simp only [List.foldl_cons, List.foldl_nil, List.length_cons, List.length_nil, Act.put, List.setIfInBounds_toArray, List.set_cons_zero, List.set_cons_succ]
            refine held_take 7 (some 56) (v := ?_) rfl rfl (by kernel_rfl) (by kernel_rfl) (by kernel_rfl) (fun _ _ _ _ h => h) (by kernel_rfl) ?_ hHeld ?_
            rotate_left 1
            · intro w hSw; (try dsimp only at hSw); go_simp; (try with_reducible rfl)
            try simp only [List.foldl_cons, List.foldl_nil, List.length_cons, List.length_nil, Act.put, List.setIfInBounds_toArray, List.set_cons_zero, List.set_cons_succ]
            refine wpAnyH_done (by kernel_rfl) ?_ _
            go_wp2
            go_roundw
            case rel =>
              refine ⟨k + 1, (out ++ [(x.data.toList, c)], true, c), by omega, by go_num, HST.out, rfl, HBox2.out, ?_, hB2.drew, hs2, by have := HM.out; simp; omega⟩
              (show World.ownsRow _ _ _ _ _ _ _; rw [List.length_append, ← HM.out, seenCells_append, one_seen]; exact HO2.out)
            case measure => first | (simp [intOf]; done) | (simp [intOf]; omega)
          · have hh2 : (h' == 0) = false := by simpa using hh
            have HST : Hid (st L x.data.toList h (k + 1) = (out ++ [(x.data.toList, h')], true, h')) := Lib.hid (by rw [hst2, hs]; simp [swStep, List.lt_irrefl, hh])
            clear hst2 hs hlt2
            go_wp2_with fail
            refine held_begin (S := fun w' => w'.cell? ⟨g, k * 2, none⟩ = some (.string s) ∧ w'.cell? ⟨w.heap.size, 0, none⟩ = some (.string x) ∧ w'.cell? ⟨w.heap.size, 1, none⟩ = some (.int .i64 h')) 12 (by rfl) (by kernel_rfl) ?_ (fun hHeld => ?_)
            · exact ⟨by simpa using d0, by simpa using b0, by simpa using b1⟩
            refine held_take 0 (some 14) (v := ?_) rfl rfl (by kernel_rfl) (by kernel_rfl) (by kernel_rfl) (fun _ _ _ _ h => h) (by kernel_rfl) ?_ hHeld ?_
            rotate_left 1
            · intro w hSw; (try dsimp only at hSw); go_simp; (try with_reducible rfl)
            try simp only [List.foldl_cons, List.foldl_nil, List.length_cons, List.length_nil, Act.put, List.setIfInBounds_toArray, List.set_cons_zero, List.set_cons_succ]
            refine held_take 1 (some 15) (v := ?_) rfl rfl (by kernel_rfl) (by kernel_rfl) (by kernel_rfl) (fun _ _ _ _ h => h) (by kernel_rfl) ?_ hHeld ?_
            rotate_left 1
            · intro w hSw; (try dsimp only at hSw); go_simp; (try with_reducible rfl)
            try simp only [List.foldl_cons, List.foldl_nil, List.length_cons, List.length_nil, Act.put, List.setIfInBounds_toArray, List.set_cons_zero, List.set_cons_succ]
            refine held_take 2 (some 16) (v := ?_) rfl rfl (by kernel_rfl) (by kernel_rfl) (by kernel_rfl) (fun _ _ _ _ h => h) (by kernel_rfl) ?_ hHeld ?_
            rotate_left 1
            · intro w hSw; (try dsimp only at hSw); go_simp; (try with_reducible rfl)
            try simp only [List.foldl_cons, List.foldl_nil, List.length_cons, List.length_nil, Act.put, List.setIfInBounds_toArray, List.set_cons_zero, List.set_cons_succ]
            refine held_take 3 (some 17) (v := ?_) rfl rfl (by kernel_rfl) (by kernel_rfl) (by kernel_rfl) (fun _ _ _ _ h => h) (by kernel_rfl) ?_ hHeld ?_
            rotate_left 1
            · intro w hSw; (try dsimp only at hSw); go_simp; (try with_reducible rfl)
            try simp only [List.foldl_cons, List.foldl_nil, List.length_cons, List.length_nil, Act.put, List.setIfInBounds_toArray, List.set_cons_zero, List.set_cons_succ]
            refine held_take 4 (some 18) (v := ?_) rfl rfl (by kernel_rfl) (by kernel_rfl) (by kernel_rfl) (fun _ _ _ _ h => h) (by kernel_rfl) ?_ hHeld ?_
            rotate_left 1
            · intro w hSw; (try dsimp only at hSw); go_simp; (try with_reducible rfl)
            try simp only [List.foldl_cons, List.foldl_nil, List.length_cons, List.length_nil, Act.put, List.setIfInBounds_toArray, List.set_cons_zero, List.set_cons_succ]
            refine held_take 5 (some 19) (v := ?_) rfl rfl (by kernel_rfl) (by kernel_rfl) (by kernel_rfl) (fun _ _ _ _ h => h) (by kernel_rfl) ?_ hHeld ?_
            rotate_left 1
            · intro w hSw; (try dsimp only at hSw); go_simp; (try with_reducible rfl)
            try simp only [List.foldl_cons, List.foldl_nil, List.length_cons, List.length_nil, Act.put, List.setIfInBounds_toArray, List.set_cons_zero, List.set_cons_succ]
            refine held_take 6 (some 20) (v := ?_) rfl rfl (by kernel_rfl) (by kernel_rfl) (by kernel_rfl) (fun _ _ _ _ h => h) (by kernel_rfl) ?_ hHeld ?_
            rotate_left 1
            · intro w hSw; (try dsimp only at hSw); go_simp; (try with_reducible rfl)
            try simp only [List.foldl_cons, List.foldl_nil, List.length_cons, List.length_nil, Act.put, List.setIfInBounds_toArray, List.set_cons_zero, List.set_cons_succ]
            refine held_take 7 (some 21) (v := ?_) rfl rfl (by kernel_rfl) (by kernel_rfl) (by kernel_rfl) (fun _ _ _ _ h => h) (by kernel_rfl) ?_ hHeld ?_
            rotate_left 1
            · intro w hSw; (try dsimp only at hSw); go_simp; (try with_reducible rfl)
            try simp only [List.foldl_cons, List.foldl_nil, List.length_cons, List.length_nil, Act.put, List.setIfInBounds_toArray, List.set_cons_zero, List.set_cons_succ]
            refine held_take 8 (some 22) (v := ?_) rfl rfl (by kernel_rfl) (by kernel_rfl) (by kernel_rfl) (fun _ _ _ _ h => h) (by kernel_rfl) ?_ hHeld ?_
            rotate_left 1
            · intro w hSw; (try dsimp only at hSw); go_simp; (try with_reducible rfl)
            try simp only [List.foldl_cons, List.foldl_nil, List.length_cons, List.length_nil, Act.put, List.setIfInBounds_toArray, List.set_cons_zero, List.set_cons_succ]
            refine held_take 9 (some 23) (v := ?_) rfl rfl (by kernel_rfl) (by kernel_rfl) (by kernel_rfl) (fun _ _ _ _ h => h) (by kernel_rfl) ?_ hHeld ?_
            rotate_left 1
            · intro w hSw; (try dsimp only at hSw); go_simp; (try with_reducible rfl)
            try simp only [List.foldl_cons, List.foldl_nil, List.length_cons, List.length_nil, Act.put, List.setIfInBounds_toArray, List.set_cons_zero, List.set_cons_succ]
            refine held_take 10 (some 24) (v := ?_) rfl rfl (by kernel_rfl) (by kernel_rfl) (by kernel_rfl) (fun _ _ _ _ h => h) (by kernel_rfl) ?_ hHeld ?_
            rotate_left 1
            · intro w hSw; (try dsimp only at hSw); go_simp; (try with_reducible rfl)
            try simp only [List.foldl_cons, List.foldl_nil, List.length_cons, List.length_nil, Act.put, List.setIfInBounds_toArray, List.set_cons_zero, List.set_cons_succ]
            refine held_take 11 (some 25) (v := ?_) rfl rfl (by kernel_rfl) (by kernel_rfl) (by kernel_rfl) (fun _ _ _ _ h => h) (by kernel_rfl) ?_ hHeld ?_
            rotate_left 1
            · intro w hSw; (try dsimp only at hSw); go_simp; (try with_reducible rfl)
            try simp only [List.foldl_cons, List.foldl_nil, List.length_cons, List.length_nil, Act.put, List.setIfInBounds_toArray, List.set_cons_zero, List.set_cons_succ]
            refine wpAnyH_done (by kernel_rfl) ?_ _
            go_wp2_with fail
            refine held_begin (S := fun w' => w'.cell? ⟨g, k * 2, none⟩ = some (.string s) ∧ w'.cell? ⟨w.heap.size, 0, none⟩ = some (.string x) ∧ w'.cell? ⟨w.heap.size, 1, none⟩ = some (.int .i64 h')) 13 (by rfl) (by kernel_rfl) ?_ (fun hHeld => ?_)
            · exact ⟨hHeld.1, hHeld.2.1, hHeld.2.2⟩
            refine held_take 0 (some 26) (v := ?_) rfl rfl (by kernel_rfl) (by kernel_rfl) (by kernel_rfl) (fun _ _ _ _ h => h) (by kernel_rfl) ?_ hHeld ?_
            rotate_left 1
            · intro w hSw; (try dsimp only at hSw); go_simp; (try with_reducible rfl)
            try simp only [List.foldl_cons, List.foldl_nil, List.length_cons, List.length_nil, Act.put, List.setIfInBounds_toArray, List.set_cons_zero, List.set_cons_succ]
            refine held_take 1 (some 27) (v := ?_) rfl rfl (by kernel_rfl) (by kernel_rfl) (by kernel_rfl) (fun _ _ _ _ h => h) (by kernel_rfl) ?_ hHeld ?_
            rotate_left 1
            · intro w hSw; (try dsimp only at hSw); go_simp; (try with_reducible rfl)
            try simp only [List.foldl_cons, List.foldl_nil, List.length_cons, List.length_nil, Act.put, List.setIfInBounds_toArray, List.set_cons_zero, List.set_cons_succ]
            refine held_take 2 (some 28) (v := ?_) rfl rfl (by kernel_rfl) (by kernel_rfl) (by kernel_rfl) (fun _ _ _ _ h => h) (by kernel_rfl) ?_ hHeld ?_
            rotate_left 1
            · intro w hSw; (try dsimp only at hSw); go_simp; (try with_reducible rfl)
            try simp only [List.foldl_cons, List.foldl_nil, List.length_cons, List.length_nil, Act.put, List.setIfInBounds_toArray, List.set_cons_zero, List.set_cons_succ]
            refine held_take 3 (some 29) (v := ?_) rfl rfl (by kernel_rfl) (by kernel_rfl) (by kernel_rfl) (fun _ _ _ _ h => h) (by kernel_rfl) ?_ hHeld ?_
            rotate_left 1
            · intro w hSw; (try dsimp only at hSw); go_simp; (try with_reducible rfl)
            try simp only [List.foldl_cons, List.foldl_nil, List.length_cons, List.length_nil, Act.put, List.setIfInBounds_toArray, List.set_cons_zero, List.set_cons_succ]
            refine held_take 4 (some 30) (v := ?_) rfl rfl (by kernel_rfl) (by kernel_rfl) (by kernel_rfl) (fun _ _ _ _ h => h) (by kernel_rfl) ?_ hHeld ?_
            rotate_left 1
            · intro w hSw; (try dsimp only at hSw); go_simp; (try with_reducible rfl)
            try simp only [List.foldl_cons, List.foldl_nil, List.length_cons, List.length_nil, Act.put, List.setIfInBounds_toArray, List.set_cons_zero, List.set_cons_succ]
            refine held_take 5 (some 31) (v := ?_) rfl rfl (by kernel_rfl) (by kernel_rfl) (by kernel_rfl) (fun _ _ _ _ h => h) (by kernel_rfl) ?_ hHeld ?_
            rotate_left 1
            · intro w hSw; (try dsimp only at hSw); go_simp; (try with_reducible rfl)
            try simp only [List.foldl_cons, List.foldl_nil, List.length_cons, List.length_nil, Act.put, List.setIfInBounds_toArray, List.set_cons_zero, List.set_cons_succ]
            refine held_take 6 (some 32) (v := ?_) rfl rfl (by kernel_rfl) (by kernel_rfl) (by kernel_rfl) (fun _ _ _ _ h => h) (by kernel_rfl) ?_ hHeld ?_
            rotate_left 1
            · intro w hSw; (try dsimp only at hSw); go_simp; (try with_reducible rfl)
            try simp only [List.foldl_cons, List.foldl_nil, List.length_cons, List.length_nil, Act.put, List.setIfInBounds_toArray, List.set_cons_zero, List.set_cons_succ]
            refine held_take 7 (some 33) (v := ?_) rfl rfl (by kernel_rfl) (by kernel_rfl) (by kernel_rfl) (fun _ _ _ _ h => h) (by kernel_rfl) ?_ hHeld ?_
            rotate_left 1
            · intro w hSw; (try dsimp only at hSw); go_simp; (try with_reducible rfl)
            try simp only [List.foldl_cons, List.foldl_nil, List.length_cons, List.length_nil, Act.put, List.setIfInBounds_toArray, List.set_cons_zero, List.set_cons_succ]
            refine held_take 8 (some 34) (v := ?_) rfl rfl (by kernel_rfl) (by kernel_rfl) (by kernel_rfl) (fun _ _ _ _ h => h) (by kernel_rfl) ?_ hHeld ?_
            rotate_left 1
            · intro w hSw; (try dsimp only at hSw); go_simp; (try with_reducible rfl)
            try simp only [List.foldl_cons, List.foldl_nil, List.length_cons, List.length_nil, Act.put, List.setIfInBounds_toArray, List.set_cons_zero, List.set_cons_succ]
            refine held_take 9 (some 35) (v := ?_) rfl rfl (by kernel_rfl) (by kernel_rfl) (by kernel_rfl) (fun _ _ _ _ h => h) (by kernel_rfl) ?_ hHeld ?_
            rotate_left 1
            · intro w hSw; (try dsimp only at hSw); go_simp; (try with_reducible rfl)
            try simp only [List.foldl_cons, List.foldl_nil, List.length_cons, List.length_nil, Act.put, List.setIfInBounds_toArray, List.set_cons_zero, List.set_cons_succ]
            refine held_take 10 (some 36) (v := ?_) rfl rfl (by kernel_rfl) (by kernel_rfl) (by kernel_rfl) (fun _ _ _ _ h => h) (by kernel_rfl) ?_ hHeld ?_
            rotate_left 1
            · intro w hSw; (try dsimp only at hSw); go_simp; (try with_reducible rfl)
            try simp only [List.foldl_cons, List.foldl_nil, List.length_cons, List.length_nil, Act.put, List.setIfInBounds_toArray, List.set_cons_zero, List.set_cons_succ]
            refine held_take 11 (some 37) (v := ?_) rfl rfl (by kernel_rfl) (by kernel_rfl) (by kernel_rfl) (fun _ _ _ _ h => h) (by kernel_rfl) ?_ hHeld ?_
            rotate_left 1
            · intro w hSw; (try dsimp only at hSw); go_simp; (try with_reducible rfl)
            try simp only [List.foldl_cons, List.foldl_nil, List.length_cons, List.length_nil, Act.put, List.setIfInBounds_toArray, List.set_cons_zero, List.set_cons_succ]
            refine held_take 12 (some 38) (v := ?_) rfl rfl (by kernel_rfl) (by kernel_rfl) (by kernel_rfl) (fun _ _ _ _ h => h) (by kernel_rfl) ?_ hHeld ?_
            rotate_left 1
            · intro w hSw; (try dsimp only at hSw); go_simp; (try with_reducible rfl)
            try simp only [List.foldl_cons, List.foldl_nil, List.length_cons, List.length_nil, Act.put, List.setIfInBounds_toArray, List.set_cons_zero, List.set_cons_succ]
            refine wpAnyH_done (by kernel_rfl) ?_ _
            go_wp2_with (at_builtin; refine wpList_append_run rfl (.tmp 45) (.tmp 47) 28 rfl (appS (wr := wr.drew.drew) (B := w.heap.size + 1) 28 28 31 Tryd.underlying28 infoSeen rfl (by decide) HR'.out (by first | omega | (simp; omega)) (grown_of_below (Below.alloc (Below.refl _ _) (Nat.le_refl _) _)) (by omega) (by omega) [.string x, .int .i64 h'] rfl (by intro u hu; simp at hu; rcases hu with rfl | rfl <;> rfl) _ _ (cells_new (by simp))) ?_; rintro v2 w2 ⟨hown2, hg, hbb⟩; have HO2 := Lib.hid hown2; have HG2 := Lib.hid hg; have HBB2 := Lib.hid hbb; clear hown2 hg hbb)
            have hbox2 := block_grown (block_alloc (w := wr.drew.drew) HB.out (.cells #[.string x, .int .i64 h'] 31)) HG2.out (row_ne_low HR'.out (by omega))
            have hB2 : Below w.heap.size w w2 := ((hbel.drew.drew).alloc (by first | omega | (simp; omega)) _).grown HG2.out (by simp; omega) (fun b hb => by have := (HBB2.out b hb).1; omega)
            have hs2 : w.heap.size + 1 ≤ w2.heap.size := by have := HG2.out.size; simp at this; omega
            have f0 := cell_later hB2 HC0.out
            have f3 := cell_later hB2 HC1.out
            have f1 := cell_of_block (i := 0) hbox2 rfl
            have f2 := cell_of_block (i := 1) hbox2 rfl
            have HBox2 := Lib.hid hbox2
            clear hbox2
            go_wp2_with fail
            refine held_begin (S := fun w' => w'.cell? ⟨g, k * 2, none⟩ = some (.string s) ∧ w'.cell? ⟨w.heap.size, 0, none⟩ = some (.string x) ∧ w'.cell? ⟨w.heap.size, 1, none⟩ = some (.int .i64 h')) 8 (by rfl) (by kernel_rfl) ?_ (fun hHeld => ?_)
            · exact ⟨by simpa using f0, by simpa using f1, by simpa using f2⟩
            refine held_take 0 (some 49) (v := ?_) rfl rfl (by kernel_rfl) (by kernel_rfl) (by kernel_rfl) (fun _ _ _ _ h => h) (by kernel_rfl) ?_ hHeld ?_
            rotate_left 1
            · intro w hSw; (try dsimp only at hSw); go_simp; (try with_reducible rfl)
            try simp only [List.foldl_cons, List.foldl_nil, List.length_cons, List.length_nil, Act.put, List.setIfInBounds_toArray, List.set_cons_zero, List.set_cons_succ]
            refine held_take 1 (some 50) (v := ?_) rfl rfl (by kernel_rfl) (by kernel_rfl) (by kernel_rfl) (fun _ _ _ _ h => h) (by kernel_rfl) ?_ hHeld ?_
            rotate_left 1
            · intro w hSw; (try dsimp only at hSw); go_simp; (try with_reducible rfl)
            try simp only [List.foldl_cons, List.foldl_nil, List.length_cons, List.length_nil, Act.put, List.setIfInBounds_toArray, List.set_cons_zero, List.set_cons_succ]
            refine held_take 2 (some 51) (v := ?_) rfl rfl (by kernel_rfl) (by kernel_rfl) (by kernel_rfl) (fun _ _ _ _ h => h) (by kernel_rfl) ?_ hHeld ?_
            rotate_left 1
            · intro w hSw; (try dsimp only at hSw); go_simp; (try with_reducible rfl)
            try simp only [List.foldl_cons, List.foldl_nil, List.length_cons, List.length_nil, Act.put, List.setIfInBounds_toArray, List.set_cons_zero, List.set_cons_succ]
            refine held_take 3 (some 52) (v := ?_) rfl rfl (by kernel_rfl) (by kernel_rfl) (by kernel_rfl) (fun _ _ _ _ h => h) (by kernel_rfl) ?_ hHeld ?_
            rotate_left 1
            · intro w hSw; (try dsimp only at hSw); go_simp; (try with_reducible rfl)
            try simp only [List.foldl_cons, List.foldl_nil, List.length_cons, List.length_nil, Act.put, List.setIfInBounds_toArray, List.set_cons_zero, List.set_cons_succ]
            refine held_take 4 (some 53) (v := ?_) rfl rfl (by kernel_rfl) (by kernel_rfl) (by kernel_rfl) (fun _ _ _ _ h => h) (by kernel_rfl) ?_ hHeld ?_
            rotate_left 1
            · intro w hSw; (try dsimp only at hSw); go_simp; (try with_reducible rfl)
            try simp only [List.foldl_cons, List.foldl_nil, List.length_cons, List.length_nil, Act.put, List.setIfInBounds_toArray, List.set_cons_zero, List.set_cons_succ]
            refine held_take 5 (some 54) (v := ?_) rfl rfl (by kernel_rfl) (by kernel_rfl) (by kernel_rfl) (fun _ _ _ _ h => h) (by kernel_rfl) ?_ hHeld ?_
            rotate_left 1
            · intro w hSw; (try dsimp only at hSw); go_simp; (try with_reducible rfl)
            try simp only [List.foldl_cons, List.foldl_nil, List.length_cons, List.length_nil, Act.put, List.setIfInBounds_toArray, List.set_cons_zero, List.set_cons_succ]
            refine held_take 6 (some 55) (v := ?_) rfl rfl (by kernel_rfl) (by kernel_rfl) (by kernel_rfl) (fun _ _ _ _ h => h) (by kernel_rfl) ?_ hHeld ?_
            rotate_left 1
            · intro w hSw; (try dsimp only at hSw); go_simp; (try with_reducible rfl)
            try simp only [List.foldl_cons, List.foldl_nil, List.length_cons, List.length_nil, Act.put, List.setIfInBounds_toArray, List.set_cons_zero, List.set_cons_succ]
            refine held_take 7 (some 56) (v := ?_) rfl rfl (by kernel_rfl) (by kernel_rfl) (by kernel_rfl) (fun _ _ _ _ h => h) (by kernel_rfl) ?_ hHeld ?_
            rotate_left 1
            · intro w hSw; (try dsimp only at hSw); go_simp; (try with_reducible rfl)
            try simp only [List.foldl_cons, List.foldl_nil, List.length_cons, List.length_nil, Act.put, List.setIfInBounds_toArray, List.set_cons_zero, List.set_cons_succ]
            refine wpAnyH_done (by kernel_rfl) ?_ _
            go_wp2
            go_roundw
            case rel =>
              refine ⟨k + 1, (out ++ [(x.data.toList, h')], true, h'), by omega, by go_num, HST.out, rfl, HBox2.out, ?_, hB2.drew, hs2, by have := HM.out; simp; omega⟩
              (show World.ownsRow _ _ _ _ _ _ _; rw [List.length_append, ← HM.out, seenCells_append, one_seen]; exact HO2.out)
            case measure => first | (simp [intOf]; done) | (simp [intOf]; omega)
        · have hsm := seq_false hs
          have hs2 : ¬ s.data.toList = x.data.toList := fun e => hs (bytes_eq e)
          by_cases hlt2 : s.data.toList < x.data.toList
          · have hls := less_true hlt2
            have HST : Hid (st L x.data.toList h (k + 1) = (out ++ [(s.data.toList, c)], false, h')) := Lib.hid (by rw [hst2]; simp [swStep, hlt2, hs2])
            clear hst2 hs hlt2 hs2
            go_wp2_with fail
            refine held_begin (S := fun w' => w'.cell? ⟨g, k * 2, none⟩ = some (.string s) ∧ w'.cell? ⟨w.heap.size, 0, none⟩ = some (.string x) ∧ w'.cell? ⟨w.heap.size, 1, none⟩ = some (.int .i64 h')) 12 (by rfl) (by kernel_rfl) ?_ (fun hHeld => ?_)
            · exact ⟨by simpa using d0, by simpa using b0, by simpa using b1⟩
            refine held_take 0 (some 14) (v := ?_) rfl rfl (by kernel_rfl) (by kernel_rfl) (by kernel_rfl) (fun _ _ _ _ h => h) (by kernel_rfl) ?_ hHeld ?_
            rotate_left 1
            · intro w hSw; (try dsimp only at hSw); go_simp; (try with_reducible rfl)
            try simp only [List.foldl_cons, List.foldl_nil, List.length_cons, List.length_nil, Act.put, List.setIfInBounds_toArray, List.set_cons_zero, List.set_cons_succ]
            refine held_take 1 (some 15) (v := ?_) rfl rfl (by kernel_rfl) (by kernel_rfl) (by kernel_rfl) (fun _ _ _ _ h => h) (by kernel_rfl) ?_ hHeld ?_
            rotate_left 1
            · intro w hSw; (try dsimp only at hSw); go_simp; (try with_reducible rfl)
            try simp only [List.foldl_cons, List.foldl_nil, List.length_cons, List.length_nil, Act.put, List.setIfInBounds_toArray, List.set_cons_zero, List.set_cons_succ]
            refine held_take 2 (some 16) (v := ?_) rfl rfl (by kernel_rfl) (by kernel_rfl) (by kernel_rfl) (fun _ _ _ _ h => h) (by kernel_rfl) ?_ hHeld ?_
            rotate_left 1
            · intro w hSw; (try dsimp only at hSw); go_simp; (try with_reducible rfl)
            try simp only [List.foldl_cons, List.foldl_nil, List.length_cons, List.length_nil, Act.put, List.setIfInBounds_toArray, List.set_cons_zero, List.set_cons_succ]
            refine held_take 3 (some 17) (v := ?_) rfl rfl (by kernel_rfl) (by kernel_rfl) (by kernel_rfl) (fun _ _ _ _ h => h) (by kernel_rfl) ?_ hHeld ?_
            rotate_left 1
            · intro w hSw; (try dsimp only at hSw); go_simp; (try with_reducible rfl)
            try simp only [List.foldl_cons, List.foldl_nil, List.length_cons, List.length_nil, Act.put, List.setIfInBounds_toArray, List.set_cons_zero, List.set_cons_succ]
            refine held_take 4 (some 18) (v := ?_) rfl rfl (by kernel_rfl) (by kernel_rfl) (by kernel_rfl) (fun _ _ _ _ h => h) (by kernel_rfl) ?_ hHeld ?_
            rotate_left 1
            · intro w hSw; (try dsimp only at hSw); go_simp; (try with_reducible rfl)
            try simp only [List.foldl_cons, List.foldl_nil, List.length_cons, List.length_nil, Act.put, List.setIfInBounds_toArray, List.set_cons_zero, List.set_cons_succ]
            refine held_take 5 (some 19) (v := ?_) rfl rfl (by kernel_rfl) (by kernel_rfl) (by kernel_rfl) (fun _ _ _ _ h => h) (by kernel_rfl) ?_ hHeld ?_
            rotate_left 1
            · intro w hSw; (try dsimp only at hSw); go_simp; (try with_reducible rfl)
            try simp only [List.foldl_cons, List.foldl_nil, List.length_cons, List.length_nil, Act.put, List.setIfInBounds_toArray, List.set_cons_zero, List.set_cons_succ]
            refine held_take 6 (some 20) (v := ?_) rfl rfl (by kernel_rfl) (by kernel_rfl) (by kernel_rfl) (fun _ _ _ _ h => h) (by kernel_rfl) ?_ hHeld ?_
            rotate_left 1
            · intro w hSw; (try dsimp only at hSw); go_simp; (try with_reducible rfl)
            try simp only [List.foldl_cons, List.foldl_nil, List.length_cons, List.length_nil, Act.put, List.setIfInBounds_toArray, List.set_cons_zero, List.set_cons_succ]
            refine held_take 7 (some 21) (v := ?_) rfl rfl (by kernel_rfl) (by kernel_rfl) (by kernel_rfl) (fun _ _ _ _ h => h) (by kernel_rfl) ?_ hHeld ?_
            rotate_left 1
            · intro w hSw; (try dsimp only at hSw); go_simp; (try with_reducible rfl)
            try simp only [List.foldl_cons, List.foldl_nil, List.length_cons, List.length_nil, Act.put, List.setIfInBounds_toArray, List.set_cons_zero, List.set_cons_succ]
            refine held_take 8 (some 22) (v := ?_) rfl rfl (by kernel_rfl) (by kernel_rfl) (by kernel_rfl) (fun _ _ _ _ h => h) (by kernel_rfl) ?_ hHeld ?_
            rotate_left 1
            · intro w hSw; (try dsimp only at hSw); go_simp; (try with_reducible rfl)
            try simp only [List.foldl_cons, List.foldl_nil, List.length_cons, List.length_nil, Act.put, List.setIfInBounds_toArray, List.set_cons_zero, List.set_cons_succ]
            refine held_take 9 (some 23) (v := ?_) rfl rfl (by kernel_rfl) (by kernel_rfl) (by kernel_rfl) (fun _ _ _ _ h => h) (by kernel_rfl) ?_ hHeld ?_
            rotate_left 1
            · intro w hSw; (try dsimp only at hSw); go_simp; (try with_reducible rfl)
            try simp only [List.foldl_cons, List.foldl_nil, List.length_cons, List.length_nil, Act.put, List.setIfInBounds_toArray, List.set_cons_zero, List.set_cons_succ]
            refine held_take 10 (some 24) (v := ?_) rfl rfl (by kernel_rfl) (by kernel_rfl) (by kernel_rfl) (fun _ _ _ _ h => h) (by kernel_rfl) ?_ hHeld ?_
            rotate_left 1
            · intro w hSw; (try dsimp only at hSw); go_simp; (try with_reducible rfl)
            try simp only [List.foldl_cons, List.foldl_nil, List.length_cons, List.length_nil, Act.put, List.setIfInBounds_toArray, List.set_cons_zero, List.set_cons_succ]
            refine held_take 11 (some 25) (v := ?_) rfl rfl (by kernel_rfl) (by kernel_rfl) (by kernel_rfl) (fun _ _ _ _ h => h) (by kernel_rfl) ?_ hHeld ?_
            rotate_left 1
            · intro w hSw; (try dsimp only at hSw); go_simp; (try with_reducible rfl)
            try simp only [List.foldl_cons, List.foldl_nil, List.length_cons, List.length_nil, Act.put, List.setIfInBounds_toArray, List.set_cons_zero, List.set_cons_succ]
            refine wpAnyH_done (by kernel_rfl) ?_ _
            go_wp2_with fail
            refine held_begin (S := fun w' => w'.cell? ⟨g, k * 2, none⟩ = some (.string s) ∧ w'.cell? ⟨w.heap.size, 0, none⟩ = some (.string x) ∧ w'.cell? ⟨w.heap.size, 1, none⟩ = some (.int .i64 h')) 8 (by rfl) (by kernel_rfl) ?_ (fun hHeld => ?_)
            · exact ⟨hHeld.1, hHeld.2.1, hHeld.2.2⟩
            refine held_take 0 (some 49) (v := ?_) rfl rfl (by kernel_rfl) (by kernel_rfl) (by kernel_rfl) (fun _ _ _ _ h => h) (by kernel_rfl) ?_ hHeld ?_
            rotate_left 1
            · intro w hSw; (try dsimp only at hSw); go_simp; (try with_reducible rfl)
            try simp only [List.foldl_cons, List.foldl_nil, List.length_cons, List.length_nil, Act.put, List.setIfInBounds_toArray, List.set_cons_zero, List.set_cons_succ]
            refine held_take 1 (some 50) (v := ?_) rfl rfl (by kernel_rfl) (by kernel_rfl) (by kernel_rfl) (fun _ _ _ _ h => h) (by kernel_rfl) ?_ hHeld ?_
            rotate_left 1
            · intro w hSw; (try dsimp only at hSw); go_simp; (try with_reducible rfl)
            try simp only [List.foldl_cons, List.foldl_nil, List.length_cons, List.length_nil, Act.put, List.setIfInBounds_toArray, List.set_cons_zero, List.set_cons_succ]
            refine held_take 2 (some 51) (v := ?_) rfl rfl (by kernel_rfl) (by kernel_rfl) (by kernel_rfl) (fun _ _ _ _ h => h) (by kernel_rfl) ?_ hHeld ?_
            rotate_left 1
            · intro w hSw; (try dsimp only at hSw); go_simp; (try with_reducible rfl)
            try simp only [List.foldl_cons, List.foldl_nil, List.length_cons, List.length_nil, Act.put, List.setIfInBounds_toArray, List.set_cons_zero, List.set_cons_succ]
            refine held_take 3 (some 52) (v := ?_) rfl rfl (by kernel_rfl) (by kernel_rfl) (by kernel_rfl) (fun _ _ _ _ h => h) (by kernel_rfl) ?_ hHeld ?_
            rotate_left 1
            · intro w hSw; (try dsimp only at hSw); go_simp; (try with_reducible rfl)
            try simp only [List.foldl_cons, List.foldl_nil, List.length_cons, List.length_nil, Act.put, List.setIfInBounds_toArray, List.set_cons_zero, List.set_cons_succ]
            refine held_take 4 (some 53) (v := ?_) rfl rfl (by kernel_rfl) (by kernel_rfl) (by kernel_rfl) (fun _ _ _ _ h => h) (by kernel_rfl) ?_ hHeld ?_
            rotate_left 1
            · intro w hSw; (try dsimp only at hSw); go_simp; (try with_reducible rfl)
            try simp only [List.foldl_cons, List.foldl_nil, List.length_cons, List.length_nil, Act.put, List.setIfInBounds_toArray, List.set_cons_zero, List.set_cons_succ]
            refine held_take 5 (some 54) (v := ?_) rfl rfl (by kernel_rfl) (by kernel_rfl) (by kernel_rfl) (fun _ _ _ _ h => h) (by kernel_rfl) ?_ hHeld ?_
            rotate_left 1
            · intro w hSw; (try dsimp only at hSw); go_simp; (try with_reducible rfl)
            try simp only [List.foldl_cons, List.foldl_nil, List.length_cons, List.length_nil, Act.put, List.setIfInBounds_toArray, List.set_cons_zero, List.set_cons_succ]
            refine held_take 6 (some 55) (v := ?_) rfl rfl (by kernel_rfl) (by kernel_rfl) (by kernel_rfl) (fun _ _ _ _ h => h) (by kernel_rfl) ?_ hHeld ?_
            rotate_left 1
            · intro w hSw; (try dsimp only at hSw); go_simp; (try with_reducible rfl)
            try simp only [List.foldl_cons, List.foldl_nil, List.length_cons, List.length_nil, Act.put, List.setIfInBounds_toArray, List.set_cons_zero, List.set_cons_succ]
            refine held_take 7 (some 56) (v := ?_) rfl rfl (by kernel_rfl) (by kernel_rfl) (by kernel_rfl) (fun _ _ _ _ h => h) (by kernel_rfl) ?_ hHeld ?_
            rotate_left 1
            · intro w hSw; (try dsimp only at hSw); go_simp; (try with_reducible rfl)
            try simp only [List.foldl_cons, List.foldl_nil, List.length_cons, List.length_nil, Act.put, List.setIfInBounds_toArray, List.set_cons_zero, List.set_cons_succ]
            refine wpAnyH_done (by kernel_rfl) ?_ _
            go_wp2_with (at_builtin; refine wpList_append_run rfl (.tmp 57) (.tmp 62) 28 rfl (appS (wr := wr) (B := w.heap.size + 1) 28 28 31 Tryd.underlying28 infoSeen rfl (by decide) HR'.out (by first | omega | (simp; omega)) (grown_of_below (by go_grown)) (by omega) (by omega) [.string s, .int .i64 c] rfl (by intro u hu; simp at hu; rcases hu with rfl | rfl <;> rfl) _ _ (cells_new (by simp))) ?_; rintro v2 w2 ⟨hown2, hg, hbb⟩; have HO2 := Lib.hid hown2; have HG2 := Lib.hid hg; have HBB2 := Lib.hid hbb; clear hown2 hg hbb)
            have hs2 : w.heap.size + 1 ≤ w2.heap.size := by have := HG2.out.size; simp at this; omega
            go_roundw
            case rel =>
              refine ⟨k + 1, (out ++ [(s.data.toList, c)], false, h'), by omega, by go_num, HST.out, rfl, block_grown (block_alloc (w := wr.drew.drew) HB.out _) HG2.out (row_ne_low HR'.out (by omega)), ?_, ((hbel.drew.drew).alloc (by first | omega | (simp; omega)) _).grown HG2.out (by simp; omega) (fun b hb => by have := (HBB2.out b hb).1; omega), hs2, by have := HM.out; simp; omega⟩
              (show World.ownsRow _ _ _ _ _ _ _; rw [List.length_append, ← HM.out, seenCells_append, one_seen]; exact HO2.out)
            case measure => first | (simp [intOf]; done) | (simp [intOf]; omega)
          · have hls := less_false hlt2
            have HST : Hid (st L x.data.toList h (k + 1) = (out ++ [(x.data.toList, h'), (s.data.toList, c)], true, h')) := Lib.hid (by rw [hst2]; simp [swStep, hlt2, hs2])
            clear hst2 hs hlt2 hs2
            go_wp2_with fail
            refine held_begin (S := fun w' => w'.cell? ⟨g, k * 2, none⟩ = some (.string s) ∧ w'.cell? ⟨w.heap.size, 0, none⟩ = some (.string x) ∧ w'.cell? ⟨w.heap.size, 1, none⟩ = some (.int .i64 h')) 12 (by rfl) (by kernel_rfl) ?_ (fun hHeld => ?_)
            · exact ⟨by simpa using d0, by simpa using b0, by simpa using b1⟩
            refine held_take 0 (some 14) (v := ?_) rfl rfl (by kernel_rfl) (by kernel_rfl) (by kernel_rfl) (fun _ _ _ _ h => h) (by kernel_rfl) ?_ hHeld ?_
            rotate_left 1
            · intro w hSw; (try dsimp only at hSw); go_simp; (try with_reducible rfl)
            try simp only [List.foldl_cons, List.foldl_nil, List.length_cons, List.length_nil, Act.put, List.setIfInBounds_toArray, List.set_cons_zero, List.set_cons_succ]
            refine held_take 1 (some 15) (v := ?_) rfl rfl (by kernel_rfl) (by kernel_rfl) (by kernel_rfl) (fun _ _ _ _ h => h) (by kernel_rfl) ?_ hHeld ?_
            rotate_left 1
            · intro w hSw; (try dsimp only at hSw); go_simp; (try with_reducible rfl)
            try simp only [List.foldl_cons, List.foldl_nil, List.length_cons, List.length_nil, Act.put, List.setIfInBounds_toArray, List.set_cons_zero, List.set_cons_succ]
            refine held_take 2 (some 16) (v := ?_) rfl rfl (by kernel_rfl) (by kernel_rfl) (by kernel_rfl) (fun _ _ _ _ h => h) (by kernel_rfl) ?_ hHeld ?_
            rotate_left 1
            · intro w hSw; (try dsimp only at hSw); go_simp; (try with_reducible rfl)
            try simp only [List.foldl_cons, List.foldl_nil, List.length_cons, List.length_nil, Act.put, List.setIfInBounds_toArray, List.set_cons_zero, List.set_cons_succ]
            refine held_take 3 (some 17) (v := ?_) rfl rfl (by kernel_rfl) (by kernel_rfl) (by kernel_rfl) (fun _ _ _ _ h => h) (by kernel_rfl) ?_ hHeld ?_
            rotate_left 1
            · intro w hSw; (try dsimp only at hSw); go_simp; (try with_reducible rfl)
            try simp only [List.foldl_cons, List.foldl_nil, List.length_cons, List.length_nil, Act.put, List.setIfInBounds_toArray, List.set_cons_zero, List.set_cons_succ]
            refine held_take 4 (some 18) (v := ?_) rfl rfl (by kernel_rfl) (by kernel_rfl) (by kernel_rfl) (fun _ _ _ _ h => h) (by kernel_rfl) ?_ hHeld ?_
            rotate_left 1
            · intro w hSw; (try dsimp only at hSw); go_simp; (try with_reducible rfl)
            try simp only [List.foldl_cons, List.foldl_nil, List.length_cons, List.length_nil, Act.put, List.setIfInBounds_toArray, List.set_cons_zero, List.set_cons_succ]
            refine held_take 5 (some 19) (v := ?_) rfl rfl (by kernel_rfl) (by kernel_rfl) (by kernel_rfl) (fun _ _ _ _ h => h) (by kernel_rfl) ?_ hHeld ?_
            rotate_left 1
            · intro w hSw; (try dsimp only at hSw); go_simp; (try with_reducible rfl)
            try simp only [List.foldl_cons, List.foldl_nil, List.length_cons, List.length_nil, Act.put, List.setIfInBounds_toArray, List.set_cons_zero, List.set_cons_succ]
            refine held_take 6 (some 20) (v := ?_) rfl rfl (by kernel_rfl) (by kernel_rfl) (by kernel_rfl) (fun _ _ _ _ h => h) (by kernel_rfl) ?_ hHeld ?_
            rotate_left 1
            · intro w hSw; (try dsimp only at hSw); go_simp; (try with_reducible rfl)
            try simp only [List.foldl_cons, List.foldl_nil, List.length_cons, List.length_nil, Act.put, List.setIfInBounds_toArray, List.set_cons_zero, List.set_cons_succ]
            refine held_take 7 (some 21) (v := ?_) rfl rfl (by kernel_rfl) (by kernel_rfl) (by kernel_rfl) (fun _ _ _ _ h => h) (by kernel_rfl) ?_ hHeld ?_
            rotate_left 1
            · intro w hSw; (try dsimp only at hSw); go_simp; (try with_reducible rfl)
            try simp only [List.foldl_cons, List.foldl_nil, List.length_cons, List.length_nil, Act.put, List.setIfInBounds_toArray, List.set_cons_zero, List.set_cons_succ]
            refine held_take 8 (some 22) (v := ?_) rfl rfl (by kernel_rfl) (by kernel_rfl) (by kernel_rfl) (fun _ _ _ _ h => h) (by kernel_rfl) ?_ hHeld ?_
            rotate_left 1
            · intro w hSw; (try dsimp only at hSw); go_simp; (try with_reducible rfl)
            try simp only [List.foldl_cons, List.foldl_nil, List.length_cons, List.length_nil, Act.put, List.setIfInBounds_toArray, List.set_cons_zero, List.set_cons_succ]
            refine held_take 9 (some 23) (v := ?_) rfl rfl (by kernel_rfl) (by kernel_rfl) (by kernel_rfl) (fun _ _ _ _ h => h) (by kernel_rfl) ?_ hHeld ?_
            rotate_left 1
            · intro w hSw; (try dsimp only at hSw); go_simp; (try with_reducible rfl)
            try simp only [List.foldl_cons, List.foldl_nil, List.length_cons, List.length_nil, Act.put, List.setIfInBounds_toArray, List.set_cons_zero, List.set_cons_succ]
            refine held_take 10 (some 24) (v := ?_) rfl rfl (by kernel_rfl) (by kernel_rfl) (by kernel_rfl) (fun _ _ _ _ h => h) (by kernel_rfl) ?_ hHeld ?_
            rotate_left 1
            · intro w hSw; (try dsimp only at hSw); go_simp; (try with_reducible rfl)
            try simp only [List.foldl_cons, List.foldl_nil, List.length_cons, List.length_nil, Act.put, List.setIfInBounds_toArray, List.set_cons_zero, List.set_cons_succ]
            refine held_take 11 (some 25) (v := ?_) rfl rfl (by kernel_rfl) (by kernel_rfl) (by kernel_rfl) (fun _ _ _ _ h => h) (by kernel_rfl) ?_ hHeld ?_
            rotate_left 1
            · intro w hSw; (try dsimp only at hSw); go_simp; (try with_reducible rfl)
            try simp only [List.foldl_cons, List.foldl_nil, List.length_cons, List.length_nil, Act.put, List.setIfInBounds_toArray, List.set_cons_zero, List.set_cons_succ]
            refine wpAnyH_done (by kernel_rfl) ?_ _
            go_wp2_with fail
            refine held_begin (S := fun w' => w'.cell? ⟨g, k * 2, none⟩ = some (.string s) ∧ w'.cell? ⟨w.heap.size, 0, none⟩ = some (.string x) ∧ w'.cell? ⟨w.heap.size, 1, none⟩ = some (.int .i64 h')) 13 (by rfl) (by kernel_rfl) ?_ (fun hHeld => ?_)
            · exact ⟨hHeld.1, hHeld.2.1, hHeld.2.2⟩
            refine held_take 0 (some 26) (v := ?_) rfl rfl (by kernel_rfl) (by kernel_rfl) (by kernel_rfl) (fun _ _ _ _ h => h) (by kernel_rfl) ?_ hHeld ?_
            rotate_left 1
            · intro w hSw; (try dsimp only at hSw); go_simp; (try with_reducible rfl)
            try simp only [List.foldl_cons, List.foldl_nil, List.length_cons, List.length_nil, Act.put, List.setIfInBounds_toArray, List.set_cons_zero, List.set_cons_succ]
            refine held_take 1 (some 27) (v := ?_) rfl rfl (by kernel_rfl) (by kernel_rfl) (by kernel_rfl) (fun _ _ _ _ h => h) (by kernel_rfl) ?_ hHeld ?_
            rotate_left 1
            · intro w hSw; (try dsimp only at hSw); go_simp; (try with_reducible rfl)
            try simp only [List.foldl_cons, List.foldl_nil, List.length_cons, List.length_nil, Act.put, List.setIfInBounds_toArray, List.set_cons_zero, List.set_cons_succ]
            refine held_take 2 (some 28) (v := ?_) rfl rfl (by kernel_rfl) (by kernel_rfl) (by kernel_rfl) (fun _ _ _ _ h => h) (by kernel_rfl) ?_ hHeld ?_
            rotate_left 1
            · intro w hSw; (try dsimp only at hSw); go_simp; (try with_reducible rfl)
            try simp only [List.foldl_cons, List.foldl_nil, List.length_cons, List.length_nil, Act.put, List.setIfInBounds_toArray, List.set_cons_zero, List.set_cons_succ]
            refine held_take 3 (some 29) (v := ?_) rfl rfl (by kernel_rfl) (by kernel_rfl) (by kernel_rfl) (fun _ _ _ _ h => h) (by kernel_rfl) ?_ hHeld ?_
            rotate_left 1
            · intro w hSw; (try dsimp only at hSw); go_simp; (try with_reducible rfl)
            try simp only [List.foldl_cons, List.foldl_nil, List.length_cons, List.length_nil, Act.put, List.setIfInBounds_toArray, List.set_cons_zero, List.set_cons_succ]
            refine held_take 4 (some 30) (v := ?_) rfl rfl (by kernel_rfl) (by kernel_rfl) (by kernel_rfl) (fun _ _ _ _ h => h) (by kernel_rfl) ?_ hHeld ?_
            rotate_left 1
            · intro w hSw; (try dsimp only at hSw); go_simp; (try with_reducible rfl)
            try simp only [List.foldl_cons, List.foldl_nil, List.length_cons, List.length_nil, Act.put, List.setIfInBounds_toArray, List.set_cons_zero, List.set_cons_succ]
            refine held_take 5 (some 31) (v := ?_) rfl rfl (by kernel_rfl) (by kernel_rfl) (by kernel_rfl) (fun _ _ _ _ h => h) (by kernel_rfl) ?_ hHeld ?_
            rotate_left 1
            · intro w hSw; (try dsimp only at hSw); go_simp; (try with_reducible rfl)
            try simp only [List.foldl_cons, List.foldl_nil, List.length_cons, List.length_nil, Act.put, List.setIfInBounds_toArray, List.set_cons_zero, List.set_cons_succ]
            refine held_take 6 (some 32) (v := ?_) rfl rfl (by kernel_rfl) (by kernel_rfl) (by kernel_rfl) (fun _ _ _ _ h => h) (by kernel_rfl) ?_ hHeld ?_
            rotate_left 1
            · intro w hSw; (try dsimp only at hSw); go_simp; (try with_reducible rfl)
            try simp only [List.foldl_cons, List.foldl_nil, List.length_cons, List.length_nil, Act.put, List.setIfInBounds_toArray, List.set_cons_zero, List.set_cons_succ]
            refine held_take 7 (some 33) (v := ?_) rfl rfl (by kernel_rfl) (by kernel_rfl) (by kernel_rfl) (fun _ _ _ _ h => h) (by kernel_rfl) ?_ hHeld ?_
            rotate_left 1
            · intro w hSw; (try dsimp only at hSw); go_simp; (try with_reducible rfl)
            try simp only [List.foldl_cons, List.foldl_nil, List.length_cons, List.length_nil, Act.put, List.setIfInBounds_toArray, List.set_cons_zero, List.set_cons_succ]
            refine held_take 8 (some 34) (v := ?_) rfl rfl (by kernel_rfl) (by kernel_rfl) (by kernel_rfl) (fun _ _ _ _ h => h) (by kernel_rfl) ?_ hHeld ?_
            rotate_left 1
            · intro w hSw; (try dsimp only at hSw); go_simp; (try with_reducible rfl)
            try simp only [List.foldl_cons, List.foldl_nil, List.length_cons, List.length_nil, Act.put, List.setIfInBounds_toArray, List.set_cons_zero, List.set_cons_succ]
            refine held_skips (fuel := 1) (by kernel_rfl) (fun _ _ _ _ h => h) [(9, some 35), (10, some 36), (11, some 37)] (by kernel_rfl) hHeld ?_
            try simp only [List.foldl_cons, List.foldl_nil, List.length_cons, List.length_nil, Act.put, List.setIfInBounds_toArray, List.set_cons_zero, List.set_cons_succ]
            refine held_take 12 (some 38) (v := ?_) rfl rfl (by kernel_rfl) (by kernel_rfl) (by kernel_rfl) (fun _ _ _ _ h => h) (by kernel_rfl) ?_ hHeld ?_
            rotate_left 1
            · intro w hSw; (try dsimp only at hSw); go_simp; (try with_reducible rfl)
            try simp only [List.foldl_cons, List.foldl_nil, List.length_cons, List.length_nil, Act.put, List.setIfInBounds_toArray, List.set_cons_zero, List.set_cons_succ]
            refine wpAnyH_done (by kernel_rfl) ?_ _
            go_wp2_with (at_builtin; refine wpList_append_run rfl (.tmp 45) (.tmp 47) 28 rfl (appS (wr := wr) (B := w.heap.size + 1) 28 28 31 Tryd.underlying28 infoSeen rfl (by decide) HR'.out (by first | omega | (simp; omega)) (grown_of_below (by go_grown)) (by omega) (by omega) [.string x, .int .i64 h'] rfl (by intro u hu; simp at hu; rcases hu with rfl | rfl <;> rfl) _ _ (cells_new (by simp))) ?_; rintro v2 w2 ⟨hown2, hg, hbb⟩; have HO2 := Lib.hid hown2; have HG2 := Lib.hid hg; have HBB2 := Lib.hid hbb; clear hown2 hg hbb)
            have hbox2 := block_grown (block_alloc (w := wr.drew.drew) HB.out (.cells #[.string x, .int .i64 h'] 31)) HG2.out (row_ne_low HR'.out (by omega))
            have hB2 : Below w.heap.size w w2 := ((hbel.drew.drew).alloc (by first | omega | (simp; omega)) _).grown HG2.out (by simp; omega) (fun b hb => by have := (HBB2.out b hb).1; omega)
            have hs2 : w.heap.size + 1 ≤ w2.heap.size := by have := HG2.out.size; simp at this; omega
            have f0 := cell_later hB2 HC0.out
            have f3 := cell_later hB2 HC1.out
            have f1 := cell_of_block (i := 0) hbox2 rfl
            have f2 := cell_of_block (i := 1) hbox2 rfl
            have HBox2 := Lib.hid hbox2
            clear hbox2
            go_wp2_with fail
            refine held_begin (S := fun w' => w'.cell? ⟨g, k * 2, none⟩ = some (.string s) ∧ w'.cell? ⟨w.heap.size, 0, none⟩ = some (.string x) ∧ w'.cell? ⟨w.heap.size, 1, none⟩ = some (.int .i64 h')) 8 (by rfl) (by kernel_rfl) ?_ (fun hHeld => ?_)
            · exact ⟨by simpa using f0, by simpa using f1, by simpa using f2⟩
            refine held_take 0 (some 49) (v := ?_) rfl rfl (by kernel_rfl) (by kernel_rfl) (by kernel_rfl) (fun _ _ _ _ h => h) (by kernel_rfl) ?_ hHeld ?_
            rotate_left 1
            · intro w hSw; (try dsimp only at hSw); go_simp; (try with_reducible rfl)
            try simp only [List.foldl_cons, List.foldl_nil, List.length_cons, List.length_nil, Act.put, List.setIfInBounds_toArray, List.set_cons_zero, List.set_cons_succ]
            refine held_take 1 (some 50) (v := ?_) rfl rfl (by kernel_rfl) (by kernel_rfl) (by kernel_rfl) (fun _ _ _ _ h => h) (by kernel_rfl) ?_ hHeld ?_
            rotate_left 1
            · intro w hSw; (try dsimp only at hSw); go_simp; (try with_reducible rfl)
            try simp only [List.foldl_cons, List.foldl_nil, List.length_cons, List.length_nil, Act.put, List.setIfInBounds_toArray, List.set_cons_zero, List.set_cons_succ]
            refine held_take 2 (some 51) (v := ?_) rfl rfl (by kernel_rfl) (by kernel_rfl) (by kernel_rfl) (fun _ _ _ _ h => h) (by kernel_rfl) ?_ hHeld ?_
            rotate_left 1
            · intro w hSw; (try dsimp only at hSw); go_simp; (try with_reducible rfl)
            try simp only [List.foldl_cons, List.foldl_nil, List.length_cons, List.length_nil, Act.put, List.setIfInBounds_toArray, List.set_cons_zero, List.set_cons_succ]
            refine held_take 3 (some 52) (v := ?_) rfl rfl (by kernel_rfl) (by kernel_rfl) (by kernel_rfl) (fun _ _ _ _ h => h) (by kernel_rfl) ?_ hHeld ?_
            rotate_left 1
            · intro w hSw; (try dsimp only at hSw); go_simp; (try with_reducible rfl)
            try simp only [List.foldl_cons, List.foldl_nil, List.length_cons, List.length_nil, Act.put, List.setIfInBounds_toArray, List.set_cons_zero, List.set_cons_succ]
            refine held_take 4 (some 53) (v := ?_) rfl rfl (by kernel_rfl) (by kernel_rfl) (by kernel_rfl) (fun _ _ _ _ h => h) (by kernel_rfl) ?_ hHeld ?_
            rotate_left 1
            · intro w hSw; (try dsimp only at hSw); go_simp; (try with_reducible rfl)
            try simp only [List.foldl_cons, List.foldl_nil, List.length_cons, List.length_nil, Act.put, List.setIfInBounds_toArray, List.set_cons_zero, List.set_cons_succ]
            refine held_take 5 (some 54) (v := ?_) rfl rfl (by kernel_rfl) (by kernel_rfl) (by kernel_rfl) (fun _ _ _ _ h => h) (by kernel_rfl) ?_ hHeld ?_
            rotate_left 1
            · intro w hSw; (try dsimp only at hSw); go_simp; (try with_reducible rfl)
            try simp only [List.foldl_cons, List.foldl_nil, List.length_cons, List.length_nil, Act.put, List.setIfInBounds_toArray, List.set_cons_zero, List.set_cons_succ]
            refine held_take 6 (some 55) (v := ?_) rfl rfl (by kernel_rfl) (by kernel_rfl) (by kernel_rfl) (fun _ _ _ _ h => h) (by kernel_rfl) ?_ hHeld ?_
            rotate_left 1
            · intro w hSw; (try dsimp only at hSw); go_simp; (try with_reducible rfl)
            try simp only [List.foldl_cons, List.foldl_nil, List.length_cons, List.length_nil, Act.put, List.setIfInBounds_toArray, List.set_cons_zero, List.set_cons_succ]
            refine held_take 7 (some 56) (v := ?_) rfl rfl (by kernel_rfl) (by kernel_rfl) (by kernel_rfl) (fun _ _ _ _ h => h) (by kernel_rfl) ?_ hHeld ?_
            rotate_left 1
            · intro w hSw; (try dsimp only at hSw); go_simp; (try with_reducible rfl)
            try simp only [List.foldl_cons, List.foldl_nil, List.length_cons, List.length_nil, Act.put, List.setIfInBounds_toArray, List.set_cons_zero, List.set_cons_succ]
            refine wpAnyH_done (by kernel_rfl) ?_ _
            go_wp2_with (at_builtin; refine wpList_append_run rfl (.tmp 57) (.tmp 62) 28 rfl (appS (wr := w2) (B := w.heap.size + 1) 28 28 31 Tryd.underlying28 infoSeen rfl (by decide) HO2.out (by first | omega | (simp; omega)) (grown_of_below (by go_grown)) (by omega) (by omega) [.string s, .int .i64 c] rfl (by intro u hu; simp at hu; rcases hu with rfl | rfl <;> rfl) _ _ (cells_new (by simp))) ?_; rintro v3 w3 ⟨hown2, hg, hbb⟩; have HO3 := Lib.hid hown2; have HG3 := Lib.hid hg; have HBB3 := Lib.hid hbb; clear hown2 hg hbb)
            have hs3 : w.heap.size + 1 ≤ w3.heap.size := by have := HG3.out.size; simp at this; omega
            go_roundw
            case rel =>
              refine ⟨k + 1, (out ++ [(x.data.toList, h'), (s.data.toList, c)], true, h'), by omega, by go_num, HST.out, rfl, block_grown (block_alloc (w := w2.drew) HBox2.out _) HG3.out (row_ne_low HO2.out (by omega)), ?_, ((hB2.drew).alloc (by first | omega | (simp; omega)) _).grown HG3.out (by simp; omega) (fun b hb => by have := (HBB3.out b hb).1; omega), hs3, by have := HM.out; simp; omega⟩
              (show World.ownsRow _ _ _ _ _ _ _; rw [List.length_append, ← HM.out, seenCells_append, two_seen, ← List.append_assoc]; exact HO3.out)
            case measure => first | (simp [intOf]; done) | (simp [intOf]; omega)
      · by_cases hs : s = x
        · have hsm := seq_true hs
          have HST : Hid (st L x.data.toList h (k + 1) = (out, true, h')) := Lib.hid (by rw [hst2, hs]; simp [swStep])
          clear hst2 hs
          go_wp2_with fail
          refine held_begin (S := fun w' => w'.cell? ⟨g, k * 2, none⟩ = some (.string s) ∧ w'.cell? ⟨w.heap.size, 0, none⟩ = some (.string x) ∧ w'.cell? ⟨w.heap.size, 1, none⟩ = some (.int .i64 h')) 12 (by rfl) (by kernel_rfl) ?_ (fun hHeld => ?_)
          · exact ⟨by simpa using d0, by simpa using b0, by simpa using b1⟩
          refine held_take 0 (some 14) (v := ?_) rfl rfl (by kernel_rfl) (by kernel_rfl) (by kernel_rfl) (fun _ _ _ _ h => h) (by kernel_rfl) ?_ hHeld ?_
          rotate_left 1
          · intro w hSw; (try dsimp only at hSw); go_simp; (try with_reducible rfl)
          try simp only [List.foldl_cons, List.foldl_nil, List.length_cons, List.length_nil, Act.put, List.setIfInBounds_toArray, List.set_cons_zero, List.set_cons_succ]
          refine held_take 1 (some 15) (v := ?_) rfl rfl (by kernel_rfl) (by kernel_rfl) (by kernel_rfl) (fun _ _ _ _ h => h) (by kernel_rfl) ?_ hHeld ?_
          rotate_left 1
          · intro w hSw; (try dsimp only at hSw); go_simp; (try with_reducible rfl)
          try simp only [List.foldl_cons, List.foldl_nil, List.length_cons, List.length_nil, Act.put, List.setIfInBounds_toArray, List.set_cons_zero, List.set_cons_succ]
          refine held_take 2 (some 16) (v := ?_) rfl rfl (by kernel_rfl) (by kernel_rfl) (by kernel_rfl) (fun _ _ _ _ h => h) (by kernel_rfl) ?_ hHeld ?_
          rotate_left 1
          · intro w hSw; (try dsimp only at hSw); go_simp; (try with_reducible rfl)
          try simp only [List.foldl_cons, List.foldl_nil, List.length_cons, List.length_nil, Act.put, List.setIfInBounds_toArray, List.set_cons_zero, List.set_cons_succ]
          refine held_skips (fuel := 1) (by kernel_rfl) (fun _ _ _ _ h => h) [(3, some 17), (4, some 18), (5, some 19), (6, some 20), (7, some 21), (8, some 22), (9, some 23), (10, some 24)] (by kernel_rfl) hHeld ?_
          try simp only [List.foldl_cons, List.foldl_nil, List.length_cons, List.length_nil, Act.put, List.setIfInBounds_toArray, List.set_cons_zero, List.set_cons_succ]
          refine held_take 11 (some 25) (v := ?_) rfl rfl (by kernel_rfl) (by kernel_rfl) (by kernel_rfl) (fun _ _ _ _ h => h) (by kernel_rfl) ?_ hHeld ?_
          rotate_left 1
          · intro w hSw; (try dsimp only at hSw); go_simp; (try with_reducible rfl)
          try simp only [List.foldl_cons, List.foldl_nil, List.length_cons, List.length_nil, Act.put, List.setIfInBounds_toArray, List.set_cons_zero, List.set_cons_succ]
          refine wpAnyH_done (by kernel_rfl) ?_ _
          go_wp2_with fail
          refine held_begin (S := fun w' => w'.cell? ⟨g, k * 2, none⟩ = some (.string s) ∧ w'.cell? ⟨w.heap.size, 0, none⟩ = some (.string x) ∧ w'.cell? ⟨w.heap.size, 1, none⟩ = some (.int .i64 h')) 8 (by rfl) (by kernel_rfl) ?_ (fun hHeld => ?_)
          · exact ⟨hHeld.1, hHeld.2.1, hHeld.2.2⟩
          refine held_take 0 (some 49) (v := ?_) rfl rfl (by kernel_rfl) (by kernel_rfl) (by kernel_rfl) (fun _ _ _ _ h => h) (by kernel_rfl) ?_ hHeld ?_
          rotate_left 1
          · intro w hSw; (try dsimp only at hSw); go_simp; (try with_reducible rfl)
          try simp only [List.foldl_cons, List.foldl_nil, List.length_cons, List.length_nil, Act.put, List.setIfInBounds_toArray, List.set_cons_zero, List.set_cons_succ]
          refine held_take 1 (some 50) (v := ?_) rfl rfl (by kernel_rfl) (by kernel_rfl) (by kernel_rfl) (fun _ _ _ _ h => h) (by kernel_rfl) ?_ hHeld ?_
          rotate_left 1
          · intro w hSw; (try dsimp only at hSw); go_simp; (try with_reducible rfl)
          try simp only [List.foldl_cons, List.foldl_nil, List.length_cons, List.length_nil, Act.put, List.setIfInBounds_toArray, List.set_cons_zero, List.set_cons_succ]
          refine held_take 2 (some 51) (v := ?_) rfl rfl (by kernel_rfl) (by kernel_rfl) (by kernel_rfl) (fun _ _ _ _ h => h) (by kernel_rfl) ?_ hHeld ?_
          rotate_left 1
          · intro w hSw; (try dsimp only at hSw); go_simp; (try with_reducible rfl)
          try simp only [List.foldl_cons, List.foldl_nil, List.length_cons, List.length_nil, Act.put, List.setIfInBounds_toArray, List.set_cons_zero, List.set_cons_succ]
          refine held_take 3 (some 52) (v := ?_) rfl rfl (by kernel_rfl) (by kernel_rfl) (by kernel_rfl) (fun _ _ _ _ h => h) (by kernel_rfl) ?_ hHeld ?_
          rotate_left 1
          · intro w hSw; (try dsimp only at hSw); go_simp; (try with_reducible rfl)
          try simp only [List.foldl_cons, List.foldl_nil, List.length_cons, List.length_nil, Act.put, List.setIfInBounds_toArray, List.set_cons_zero, List.set_cons_succ]
          refine held_take 4 (some 53) (v := ?_) rfl rfl (by kernel_rfl) (by kernel_rfl) (by kernel_rfl) (fun _ _ _ _ h => h) (by kernel_rfl) ?_ hHeld ?_
          rotate_left 1
          · intro w hSw; (try dsimp only at hSw); go_simp; (try with_reducible rfl)
          try simp only [List.foldl_cons, List.foldl_nil, List.length_cons, List.length_nil, Act.put, List.setIfInBounds_toArray, List.set_cons_zero, List.set_cons_succ]
          refine held_take 5 (some 54) (v := ?_) rfl rfl (by kernel_rfl) (by kernel_rfl) (by kernel_rfl) (fun _ _ _ _ h => h) (by kernel_rfl) ?_ hHeld ?_
          rotate_left 1
          · intro w hSw; (try dsimp only at hSw); go_simp; (try with_reducible rfl)
          try simp only [List.foldl_cons, List.foldl_nil, List.length_cons, List.length_nil, Act.put, List.setIfInBounds_toArray, List.set_cons_zero, List.set_cons_succ]
          refine held_take 6 (some 55) (v := ?_) rfl rfl (by kernel_rfl) (by kernel_rfl) (by kernel_rfl) (fun _ _ _ _ h => h) (by kernel_rfl) ?_ hHeld ?_
          rotate_left 1
          · intro w hSw; (try dsimp only at hSw); go_simp; (try with_reducible rfl)
          try simp only [List.foldl_cons, List.foldl_nil, List.length_cons, List.length_nil, Act.put, List.setIfInBounds_toArray, List.set_cons_zero, List.set_cons_succ]
          refine held_take 7 (some 56) (v := ?_) rfl rfl (by kernel_rfl) (by kernel_rfl) (by kernel_rfl) (fun _ _ _ _ h => h) (by kernel_rfl) ?_ hHeld ?_
          rotate_left 1
          · intro w hSw; (try dsimp only at hSw); go_simp; (try with_reducible rfl)
          try simp only [List.foldl_cons, List.foldl_nil, List.length_cons, List.length_nil, Act.put, List.setIfInBounds_toArray, List.set_cons_zero, List.set_cons_succ]
          refine wpAnyH_done (by kernel_rfl) ?_ _
          go_wp2
          go_roundw
          case rel =>
            refine ⟨k + 1, (out, true, h'), by omega, by go_num, HST.out, rfl, HB.out, ?_, hbel.drew.drew, hsz, by have := HM.out; simp; omega⟩
            (show World.ownsRow _ _ _ _ _ _ _; rw [← HM.out]; exact HR'.out)
          case measure => first | (simp [intOf]; done) | (simp [intOf]; omega)
        · have hsm := seq_false hs
          have hs2 : ¬ s.data.toList = x.data.toList := fun e => hs (bytes_eq e)
          have HST : Hid (st L x.data.toList h (k + 1) = (out ++ [(s.data.toList, c)], true, h')) := Lib.hid (by rw [hst2]; simp [swStep, hs2])
          clear hst2 hs hs2
          go_wp2_with fail
          refine held_begin (S := fun w' => w'.cell? ⟨g, k * 2, none⟩ = some (.string s) ∧ w'.cell? ⟨w.heap.size, 0, none⟩ = some (.string x) ∧ w'.cell? ⟨w.heap.size, 1, none⟩ = some (.int .i64 h')) 12 (by rfl) (by kernel_rfl) ?_ (fun hHeld => ?_)
          · exact ⟨by simpa using d0, by simpa using b0, by simpa using b1⟩
          refine held_take 0 (some 14) (v := ?_) rfl rfl (by kernel_rfl) (by kernel_rfl) (by kernel_rfl) (fun _ _ _ _ h => h) (by kernel_rfl) ?_ hHeld ?_
          rotate_left 1
          · intro w hSw; (try dsimp only at hSw); go_simp; (try with_reducible rfl)
          try simp only [List.foldl_cons, List.foldl_nil, List.length_cons, List.length_nil, Act.put, List.setIfInBounds_toArray, List.set_cons_zero, List.set_cons_succ]
          refine held_take 1 (some 15) (v := ?_) rfl rfl (by kernel_rfl) (by kernel_rfl) (by kernel_rfl) (fun _ _ _ _ h => h) (by kernel_rfl) ?_ hHeld ?_
          rotate_left 1
          · intro w hSw; (try dsimp only at hSw); go_simp; (try with_reducible rfl)
          try simp only [List.foldl_cons, List.foldl_nil, List.length_cons, List.length_nil, Act.put, List.setIfInBounds_toArray, List.set_cons_zero, List.set_cons_succ]
          refine held_take 2 (some 16) (v := ?_) rfl rfl (by kernel_rfl) (by kernel_rfl) (by kernel_rfl) (fun _ _ _ _ h => h) (by kernel_rfl) ?_ hHeld ?_
          rotate_left 1
          · intro w hSw; (try dsimp only at hSw); go_simp; (try with_reducible rfl)
          try simp only [List.foldl_cons, List.foldl_nil, List.length_cons, List.length_nil, Act.put, List.setIfInBounds_toArray, List.set_cons_zero, List.set_cons_succ]
          refine held_skips (fuel := 1) (by kernel_rfl) (fun _ _ _ _ h => h) [(3, some 17), (4, some 18), (5, some 19), (6, some 20), (7, some 21), (8, some 22), (9, some 23), (10, some 24)] (by kernel_rfl) hHeld ?_
          try simp only [List.foldl_cons, List.foldl_nil, List.length_cons, List.length_nil, Act.put, List.setIfInBounds_toArray, List.set_cons_zero, List.set_cons_succ]
          refine held_take 11 (some 25) (v := ?_) rfl rfl (by kernel_rfl) (by kernel_rfl) (by kernel_rfl) (fun _ _ _ _ h => h) (by kernel_rfl) ?_ hHeld ?_
          rotate_left 1
          · intro w hSw; (try dsimp only at hSw); go_simp; (try with_reducible rfl)
          try simp only [List.foldl_cons, List.foldl_nil, List.length_cons, List.length_nil, Act.put, List.setIfInBounds_toArray, List.set_cons_zero, List.set_cons_succ]
          refine wpAnyH_done (by kernel_rfl) ?_ _
          go_wp2_with fail
          refine held_begin (S := fun w' => w'.cell? ⟨g, k * 2, none⟩ = some (.string s) ∧ w'.cell? ⟨w.heap.size, 0, none⟩ = some (.string x) ∧ w'.cell? ⟨w.heap.size, 1, none⟩ = some (.int .i64 h')) 8 (by rfl) (by kernel_rfl) ?_ (fun hHeld => ?_)
          · exact ⟨hHeld.1, hHeld.2.1, hHeld.2.2⟩
          refine held_take 0 (some 49) (v := ?_) rfl rfl (by kernel_rfl) (by kernel_rfl) (by kernel_rfl) (fun _ _ _ _ h => h) (by kernel_rfl) ?_ hHeld ?_
          rotate_left 1
          · intro w hSw; (try dsimp only at hSw); go_simp; (try with_reducible rfl)
          try simp only [List.foldl_cons, List.foldl_nil, List.length_cons, List.length_nil, Act.put, List.setIfInBounds_toArray, List.set_cons_zero, List.set_cons_succ]
          refine held_take 1 (some 50) (v := ?_) rfl rfl (by kernel_rfl) (by kernel_rfl) (by kernel_rfl) (fun _ _ _ _ h => h) (by kernel_rfl) ?_ hHeld ?_
          rotate_left 1
          · intro w hSw; (try dsimp only at hSw); go_simp; (try with_reducible rfl)
          try simp only [List.foldl_cons, List.foldl_nil, List.length_cons, List.length_nil, Act.put, List.setIfInBounds_toArray, List.set_cons_zero, List.set_cons_succ]
          refine held_take 2 (some 51) (v := ?_) rfl rfl (by kernel_rfl) (by kernel_rfl) (by kernel_rfl) (fun _ _ _ _ h => h) (by kernel_rfl) ?_ hHeld ?_
          rotate_left 1
          · intro w hSw; (try dsimp only at hSw); go_simp; (try with_reducible rfl)
          try simp only [List.foldl_cons, List.foldl_nil, List.length_cons, List.length_nil, Act.put, List.setIfInBounds_toArray, List.set_cons_zero, List.set_cons_succ]
          refine held_take 3 (some 52) (v := ?_) rfl rfl (by kernel_rfl) (by kernel_rfl) (by kernel_rfl) (fun _ _ _ _ h => h) (by kernel_rfl) ?_ hHeld ?_
          rotate_left 1
          · intro w hSw; (try dsimp only at hSw); go_simp; (try with_reducible rfl)
          try simp only [List.foldl_cons, List.foldl_nil, List.length_cons, List.length_nil, Act.put, List.setIfInBounds_toArray, List.set_cons_zero, List.set_cons_succ]
          refine held_take 4 (some 53) (v := ?_) rfl rfl (by kernel_rfl) (by kernel_rfl) (by kernel_rfl) (fun _ _ _ _ h => h) (by kernel_rfl) ?_ hHeld ?_
          rotate_left 1
          · intro w hSw; (try dsimp only at hSw); go_simp; (try with_reducible rfl)
          try simp only [List.foldl_cons, List.foldl_nil, List.length_cons, List.length_nil, Act.put, List.setIfInBounds_toArray, List.set_cons_zero, List.set_cons_succ]
          refine held_take 5 (some 54) (v := ?_) rfl rfl (by kernel_rfl) (by kernel_rfl) (by kernel_rfl) (fun _ _ _ _ h => h) (by kernel_rfl) ?_ hHeld ?_
          rotate_left 1
          · intro w hSw; (try dsimp only at hSw); go_simp; (try with_reducible rfl)
          try simp only [List.foldl_cons, List.foldl_nil, List.length_cons, List.length_nil, Act.put, List.setIfInBounds_toArray, List.set_cons_zero, List.set_cons_succ]
          refine held_take 6 (some 55) (v := ?_) rfl rfl (by kernel_rfl) (by kernel_rfl) (by kernel_rfl) (fun _ _ _ _ h => h) (by kernel_rfl) ?_ hHeld ?_
          rotate_left 1
          · intro w hSw; (try dsimp only at hSw); go_simp; (try with_reducible rfl)
          try simp only [List.foldl_cons, List.foldl_nil, List.length_cons, List.length_nil, Act.put, List.setIfInBounds_toArray, List.set_cons_zero, List.set_cons_succ]
          refine held_take 7 (some 56) (v := ?_) rfl rfl (by kernel_rfl) (by kernel_rfl) (by kernel_rfl) (fun _ _ _ _ h => h) (by kernel_rfl) ?_ hHeld ?_
          rotate_left 1
          · intro w hSw; (try dsimp only at hSw); go_simp; (try with_reducible rfl)
          try simp only [List.foldl_cons, List.foldl_nil, List.length_cons, List.length_nil, Act.put, List.setIfInBounds_toArray, List.set_cons_zero, List.set_cons_succ]
          refine wpAnyH_done (by kernel_rfl) ?_ _
          go_wp2_with (at_builtin; refine wpList_append_run rfl (.tmp 57) (.tmp 62) 28 rfl (appS (wr := wr) (B := w.heap.size + 1) 28 28 31 Tryd.underlying28 infoSeen rfl (by decide) HR'.out (by first | omega | (simp; omega)) (grown_of_below (by go_grown)) (by omega) (by omega) [.string s, .int .i64 c] rfl (by intro u hu; simp at hu; rcases hu with rfl | rfl <;> rfl) _ _ (cells_new (by simp))) ?_; rintro v2 w2 ⟨hown2, hg, hbb⟩; have HO2 := Lib.hid hown2; have HG2 := Lib.hid hg; have HBB2 := Lib.hid hbb; clear hown2 hg hbb)
          have hs2 : w.heap.size + 1 ≤ w2.heap.size := by have := HG2.out.size; simp at this; omega
          go_roundw
          case rel =>
            refine ⟨k + 1, (out ++ [(s.data.toList, c)], true, h'), by omega, by go_num, HST.out, rfl, block_grown (block_alloc (w := wr.drew.drew) HB.out _) HG2.out (row_ne_low HR'.out (by omega)), ?_, ((hbel.drew.drew).alloc (by first | omega | (simp; omega)) _).grown HG2.out (by simp; omega) (fun b hb => by have := (HBB2.out b hb).1; omega), hs2, by have := HM.out; simp; omega⟩
            (show World.ownsRow _ _ _ _ _ _ _; rw [List.length_append, ← HM.out, seenCells_append, one_seen]; exact HO2.out)
          case measure => first | (simp [intOf]; done) | (simp [intOf]; omega)
    · obtain rfl : k = L.length := by omega
      have hfin := HFin.out
      have hst3 : L.foldl (swStep x.data.toList) ([], false, h) = (out, pl, h') := by
        have := hst
        unfold st at this
        rw [List.take_length] at this
        exact this
      rw [hst3, List.nil_append] at hfin
      clear hst hst3 HFin
      cases pl
      · have HF := Lib.hid (show out ++ [(x.data.toList, h')] = ins L x.data.toList h from hfin)
        clear hfin
        go_wp2_with (at_builtin; refine wpList_append_run rfl (.tmp 66) (.tmp 68) 28 rfl (appS (wr := wr) (B := w.heap.size + 1) 28 28 31 Tryd.underlying28 infoSeen rfl (by decide) HR'.out (by first | omega | (simp; omega)) (grown_of_below (by go_grown)) (by omega) (by omega) [.string x, .int .i64 h'] rfl (by intro u hu; simp at hu; rcases hu with rfl | rfl <;> rfl) _ _ (cells_new (by simp))) ?_; rintro v2 w2 ⟨hown2, hg, hbb⟩; have HO2 := Lib.hid hown2; have HG2 := Lib.hid hg; have HBB2 := Lib.hid hbb; clear hown2 hg hbb)
        go_ret
        refine ⟨_, rfl, ?_, (hbel.alloc (by omega) _).grown HG2.out (by simp; omega) (fun b hb => by have := (HBB2.out b hb).1; omega)⟩
        rw [← HF.out]
        show World.ownsRow _ _ _ _ _ _ _
        rw [List.length_append, ← HM.out, seenCells_append, one_seen]
        exact owns_mono HO2.out (by omega)
      · have HF := Lib.hid (show out = ins L x.data.toList h from hfin)
        clear hfin
        go_wp2
        go_ret
        refine ⟨_, rfl, ?_, hbel⟩
        rw [← HF.out]
        show World.ownsRow _ _ _ _ _ _ _
        rw [← HM.out]
        exact owns_mono HR'.out (by omega)
end Go.Proofs.YtbdadgkjiondgaaDoor.see
