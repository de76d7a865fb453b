/-
  FnFodderIndents: the comparison of two lists that hold the same.
-/
import Derived.Test.YthdlekfnmabldaaIndParts
namespace Go.Proofs.Ythdlekfnmabldaa
open Go.RowKit
set_option linter.unusedSimpArgs false

set_option maxHeartbeats 1600000 in
theorem sameElement_any (k b i : Int) (ca ca' : Option Addr) (cl cc cc' : Nat) (S : Nat → ByteArray) (w : World) (h : StrsIn w ca cl cc S) (h' : StrsIn w ca' cl cc' S) :
    Calls Try.prog 25 #[.agg #[.int .i64 k, .int .i64 b, .int .i64 i, .slice ca cl cc], .agg #[.int .i64 k, .int .i64 b, .int .i64 i, .slice ca' cl cc']] w fun r w' => r = .returned (.bool true) ∧ Below w.heap.size w w' := by
  have H := Lib.hid h
  have H' := Lib.hid h'
  clear h h'
  go_enter Try.func25, Try.ntmps25
  go_wp2
  go_loopw [5] (fun v wr => ∃ j n : Nat, j ≤ cl ∧ v = .int .i64 j ∧ wr = ((w.alloc (.cells #[.int .i64 k, .int .i64 b, .int .i64 i, .slice ca cl cc] 28)).alloc (.cells #[.int .i64 k, .int .i64 b, .int .i64 i, .slice ca' cl cc'] 28)).drewN n) (fun v _ => cl - (intOf v).toNat)
  case atStart => exact ⟨0, 0, Nat.zero_le _, rfl, rfl⟩
  case round =>
    obtain ⟨j, n, hj, rfl, rfl⟩ := hrel
    by_cases hlt : j < cl
    · rcases H.out with ⟨-, h0, -⟩ | ⟨a, rfl, h1, h2, h3⟩
      · omega
      rcases H'.out with ⟨-, h0, -⟩ | ⟨a', rfl, h1', h2', h3'⟩
      · omega
      have hlm : (cl : Int) ≤ 9223372036854775807 := by unfold maxLen at h2; omega
      have hcell := (h3 j hlt).2
      have hcell' := (h3' j hlt).2
      clear h3 h3'
      have hc1 : ∀ o o', ((w.alloc o).alloc o').cell? (a.add j) = some (.string (S j)) := fun o o' => cell_later (by go_grown) hcell
      have hc2 : ∀ o o', ((w.alloc o).alloc o').cell? (a'.add j) = some (.string (S j)) := fun o o' => cell_later (by go_grown) hcell'
      go_wp2_with fail
      go_region_held3 (fun w' => w'.cell? ⟨w.heap.size, 3, none⟩ = some (.slice (some a) cl cc) ∧ w'.cell? ⟨w.heap.size + 1, 3, none⟩ = some (.slice (some a') cl cc') ∧ w'.cell? (a.add j) = some (.string (S j)) ∧ w'.cell? (a'.add j) = some (.string (S j))) (go_keep) (fail)
      go_wp2
      go_roundw
      case rel => exact ⟨j + 1, n + 1, by omega, by go_num, rfl⟩
      case measure => simp [intOf]; omega
    · go_wp2
      go_ret
      exact ⟨rfl, below_drewN (by go_grown) _⟩

/-- Two elements that hold the same, wherever their comments lie. -/
def SameEl (e e' : El) : Prop := e.kind = e'.kind ∧ e.blanks = e'.blanks ∧ e.indent = e'.indent ∧ e.cl = e'.cl ∧ e.S = e'.S

theorem sameFodder_any (c c' : Option Addr) (len cap cap' : Nat) (E E' : Nat → El) (w : World) (h : ElsIn w c len cap E) (h' : ElsIn w c' len cap' E') (hlen : len ≤ 100) (hs : ∀ j, j < len → SameEl (E j) (E' j)) :
    Calls Try.prog 11 #[.slice c len cap, .slice c' len cap'] w fun r w' => r = .returned (.bool true) ∧ Below w.heap.size w w' := by
  have H := Lib.hid h
  have H' := Lib.hid h'
  have HS := Lib.hid hs
  clear h h' hs
  go_enter Try.func11, Try.ntmps11
  go_wp2
  go_loopw [5] (fun v wr => ∃ k : Nat, k ≤ len ∧ v = .int .i64 k ∧ Below w.heap.size w wr) (fun v _ => len - (intOf v).toNat)
  case atStart => exact ⟨0, Nat.zero_le _, rfl, by go_grown⟩
  case round =>
    obtain ⟨j, hj, rfl, hbel⟩ := hrel
    have hsz := hbel.size
    by_cases hlt : j < len
    · rcases H.out with ⟨-, h0, -⟩ | ⟨a, rfl, h1, h2, h3⟩
      · omega
      rcases H'.out with ⟨-, h0, -⟩ | ⟨a', rfl, h1', h2', h3'⟩
      · omega
      obtain ⟨c0, c1, c2, c3, hs⟩ := (h3 j hlt).below hbel
      obtain ⟨d0, d1, d2, d3, ht⟩ := (h3' j hlt).below hbel
      obtain ⟨q1, q2, q3, q4, q5⟩ := HS.out j hlt
      clear h3 h3'
      generalize hE : E j = e at *
      generalize hE' : E' j = e' at *
      obtain ⟨kind, blanks, indent, ca, cl, cc, S⟩ := e
      obtain ⟨kind', blanks', indent', ca', cl', cc', S'⟩ := e'
      simp only at c0 c1 c2 c3 d0 d1 d2 d3 q1 q2 q3 q4 q5
      subst q1 q2 q3 q4 q5
      have HS1 := Lib.hid hs
      have HS2 := Lib.hid ht
      clear hs ht hE hE'
      go_wp2_with fail
      refine held_begin (S := fun w' => w'.cell? (a.add (j * 4)) = some (.int .i64 kind) ∧ w'.cell? ⟨(a.add (j * 4)).block, (a.add (j * 4)).off + 1, none⟩ = some (.int .i64 blanks) ∧ w'.cell? ⟨(a.add (j * 4)).block, (a.add (j * 4)).off + 2, none⟩ = some (.int .i64 indent) ∧ w'.cell? ⟨(a.add (j * 4)).block, (a.add (j * 4)).off + 3, none⟩ = some (.slice ca cl cc) ∧ w'.cell? (a'.add (j * 4)) = some (.int .i64 kind) ∧ w'.cell? ⟨(a'.add (j * 4)).block, (a'.add (j * 4)).off + 1, none⟩ = some (.int .i64 blanks) ∧ w'.cell? ⟨(a'.add (j * 4)).block, (a'.add (j * 4)).off + 2, none⟩ = some (.int .i64 indent) ∧ w'.cell? ⟨(a'.add (j * 4)).block, (a'.add (j * 4)).off + 3, none⟩ = some (.slice ca' cl cc')) 10 (by rfl) (by kernel_rfl) ?_ (fun hHeld => ?_)
      · exact ⟨by simpa using c0, by simpa using c1, by simpa using c2, by simpa using c3, by simpa using d0, by simpa using d1, by simpa using d2, by simpa using d3⟩
      refine held_take 0 (some 17) (v := ?_) rfl rfl (by kernel_rfl) (by kernel_rfl) (by kernel_rfl) (fun _ _ _ _ h => h) (by kernel_rfl) ?_ hHeld ?_
      rotate_left 1
      · intro w hSw; (try dsimp only at hSw); go_simp; (try with_reducible rfl)
      try simp only [List.foldl_cons, List.foldl_nil, List.length_cons, List.length_nil, Act.put, List.setIfInBounds_toArray, List.set_cons_zero, List.set_cons_succ]
      refine held_take 1 (some 18) (v := ?_) rfl rfl (by kernel_rfl) (by kernel_rfl) (by kernel_rfl) (fun _ _ _ _ h => h) (by kernel_rfl) ?_ hHeld ?_
      rotate_left 1
      · intro w hSw; (try dsimp only at hSw); go_simp; (try with_reducible rfl)
      try simp only [List.foldl_cons, List.foldl_nil, List.length_cons, List.length_nil, Act.put, List.setIfInBounds_toArray, List.set_cons_zero, List.set_cons_succ]
      refine held_take 2 (some 19) (v := ?_) rfl rfl (by kernel_rfl) (by kernel_rfl) (by kernel_rfl) (fun _ _ _ _ h => h) (by kernel_rfl) ?_ hHeld ?_
      rotate_left 1
      · intro w hSw; (try dsimp only at hSw); go_simp; (try with_reducible rfl)
      try simp only [List.foldl_cons, List.foldl_nil, List.length_cons, List.length_nil, Act.put, List.setIfInBounds_toArray, List.set_cons_zero, List.set_cons_succ]
      refine held_take 3 (some 20) (v := ?_) rfl rfl (by kernel_rfl) (by kernel_rfl) (by kernel_rfl) (fun _ _ _ _ h => h) (by kernel_rfl) ?_ hHeld ?_
      rotate_left 1
      · intro w hSw; (try dsimp only at hSw); go_simp; (try with_reducible rfl)
      try simp only [List.foldl_cons, List.foldl_nil, List.length_cons, List.length_nil, Act.put, List.setIfInBounds_toArray, List.set_cons_zero, List.set_cons_succ]
      refine held_take 4 (some 21) (v := ?_) rfl rfl (by kernel_rfl) (by kernel_rfl) (by kernel_rfl) (fun _ _ _ _ h => h) (by kernel_rfl) ?_ hHeld ?_
      rotate_left 1
      · intro w hSw; (try dsimp only at hSw); go_simp; (try with_reducible rfl)
      try simp only [List.foldl_cons, List.foldl_nil, List.length_cons, List.length_nil, Act.put, List.setIfInBounds_toArray, List.set_cons_zero, List.set_cons_succ]
      refine held_take 5 (some 22) (v := ?_) rfl rfl (by kernel_rfl) (by kernel_rfl) (by kernel_rfl) (fun _ _ _ _ h => h) (by kernel_rfl) ?_ hHeld ?_
      rotate_left 1
      · intro w hSw; (try dsimp only at hSw); go_simp; (try with_reducible rfl)
      try simp only [List.foldl_cons, List.foldl_nil, List.length_cons, List.length_nil, Act.put, List.setIfInBounds_toArray, List.set_cons_zero, List.set_cons_succ]
      refine held_take 6 (some 23) (v := ?_) rfl rfl (by kernel_rfl) (by kernel_rfl) (by kernel_rfl) (fun _ _ _ _ h => h) (by kernel_rfl) ?_ hHeld ?_
      rotate_left 1
      · intro w hSw; (try dsimp only at hSw); go_simp; (try with_reducible rfl)
      try simp only [List.foldl_cons, List.foldl_nil, List.length_cons, List.length_nil, Act.put, List.setIfInBounds_toArray, List.set_cons_zero, List.set_cons_succ]
      refine held_take 7 (some 24) (v := ?_) rfl rfl (by kernel_rfl) (by kernel_rfl) (by kernel_rfl) (fun _ _ _ _ h => h) (by kernel_rfl) ?_ hHeld ?_
      rotate_left 1
      · intro w hSw; (try dsimp only at hSw); go_simp; (try with_reducible rfl)
      try simp only [List.foldl_cons, List.foldl_nil, List.length_cons, List.length_nil, Act.put, List.setIfInBounds_toArray, List.set_cons_zero, List.set_cons_succ]
      refine wpAnyH_ready (rs := [8]) (by kernel_rfl) (by simp) ?_
      refine AllReadyH.cons rfl (fun K hK => ?_) AllReadyH.nil
      go_simp
      (go_at_call 25; refine (sameElement_any kind blanks indent ca ca' cl cc cc' S _ (HS1.out.below (by go_grown)) (HS2.out.below (by go_grown))).mono ?_; rintro e w1 ⟨rfl, hb⟩)
      go_wp2_with fail
      have hOld := hHeld
      clear hHeld
      refine hK.out _ _ ?_ (fun hHeld => ?_)
      · exact ⟨cell_later hb hOld.1, cell_later hb hOld.2.1, cell_later hb hOld.2.2.1, cell_later hb hOld.2.2.2.1, cell_later hb hOld.2.2.2.2.1, cell_later hb hOld.2.2.2.2.2.1, cell_later hb hOld.2.2.2.2.2.2.1, cell_later hb hOld.2.2.2.2.2.2.2⟩
      clear hK K hOld
      try simp only [List.foldl_cons, List.foldl_nil, List.length_cons, List.length_nil, Act.put, List.setIfInBounds_toArray, List.set_cons_zero, List.set_cons_succ]
      refine held_take 9 (some 26) (v := ?_) rfl rfl (by kernel_rfl) (by kernel_rfl) (by kernel_rfl) (fun _ _ _ _ h => h) (by kernel_rfl) ?_ hHeld ?_
      rotate_left 1
      · intro w hSw; (try dsimp only at hSw); go_simp; (try with_reducible rfl)
      try simp only [List.foldl_cons, List.foldl_nil, List.length_cons, List.length_nil, Act.put, List.setIfInBounds_toArray, List.set_cons_zero, List.set_cons_succ]
      refine wpAnyH_done (by kernel_rfl) ?_ _
      have hB := below_step (Nat.le_refl _) (by go_grown : Below w.heap.size w wr.drew) hb
      clear hHeld hb
      go_wp2
      go_roundw
      case rel => exact ⟨j + 1, by omega, by go_num, hB⟩
      case measure => simp [intOf]; omega
    · go_wp2
      go_ret
      exact ⟨rfl, by go_grown⟩
end Go.Proofs.Ythdlekfnmabldaa
