/-
  FnFodderIndents: the thin package's conversion back.
-/
import Derived.Test.YthdlekfnmabldaaIndSame
namespace Go.Proofs.Ythdlekfnmabldaa
open Go.RowKit
set_option linter.unusedSimpArgs false

theorem infoEl : (Try.prog.info? 28).map (fun i => (i.zero, i.size, i.bytes)) = some (some (.agg #[.int .i64 0, .int .i64 0, .int .i64 0, .slice none 0 0]), 4, 48) := by kernel_rfl

/-- The cells of the thin package's elements. -/
def GE (C : Nat → Value) (E : Nat → El) (k : Nat) : List Value := (List.range k).flatMap fun j => [.int .i64 (E j).kind, .int .i64 (E j).blanks, .int .i64 (E j).indent, C j]

/-- The first k elements are there, their comments too. -/
def MadeG (w : World) (B : Nat) (v : Value) (k : Nat) (E : Nat → El) : Prop :=
  ∃ C : Nat → Value, w.ownsRow B 28 4 v k (GE C E k) ∧ ∀ j, j < k → w.ownsRow B 9 1 (C j) (E j).cl (strs (E j).S (E j).cl)

theorem madeG_zero (w : World) (B : Nat) (E : Nat → El) : MadeG w B (.slice none 0 0) 0 E := ⟨fun _ => .slice none 0 0, World.ownsRow_nil _ _ _ _, fun j hj => absurd hj (by omega)⟩

theorem GE_succ (C : Nat → Value) (E : Nat → El) (k : Nat) (com : Value) : GE (fun j => if j = k then com else C j) E (k + 1) = GE C E k ++ [.int .i64 (E k).kind, .int .i64 (E k).blanks, .int .i64 (E k).indent, com] := by
  unfold GE
  rw [List.range_succ, List.flatMap_append]
  congr 1
  · exact Go.Deep.flatMap_congr_range (fun j hj => by show [_, _, _, if j = k then com else C j] = _; rw [if_neg (by omega)])
  · simp

theorem madeG_append {wr w4 : World} {B k : Nat} {v : Value} {E : Nat → El} (hm : MadeG wr B v k E) (hB : B ≤ wr.heap.size) (hg : wr.grownBy w4 none) (hk : k ≤ 100) (e : El) (he : E k = e) (ao : Option Addr) (cl cc : Nat)
    (hcom : w4.ownsRow B 9 1 (.slice ao cl cc) e.cl (strs e.S e.cl)) (g : Addr) (c : Nat)
    (hx : ∀ j u, [Value.int .i64 e.kind, .int .i64 e.blanks, .int .i64 e.indent, .slice ao cl cc][j]? = some u → w4.cell? (g.add j) = some u) :
    ∃ v' w', (Builtin.append_ #[22, 22] 22 #[v, .slice (some g) 1 c]).run Try.prog w4 = .ok v' w' ∧ (MadeG w' B v' (k + 1) E ∧ w4.grownBy w' v.ownBlock ∧ ∀ b, v.ownBlock = some b → B ≤ b ∧ b < wr.heap.size) := by
  subst he
  obtain ⟨C, h1, h2⟩ := hm
  obtain ⟨i0, hi, hz0, hz1, hz2⟩ := info_parts infoEl
  have h1' := h1.kept hg (by cases v.ownBlock <;> simp)
  obtain ⟨v', w', hr, h4, h5, -⟩ := run_append_own (P := Try.prog) w4 B 22 22 28 i0 (.agg #[.int .i64 0, .int .i64 0, .int .i64 0, .slice none 0 0]) 4 48 Try.underlying22 hi hz0 hz1 hz2 rfl (by decide) v k _ h1' g 1 c
    [.int .i64 (E k).kind, .int .i64 (E k).blanks, .int .i64 (E k).indent, Value.slice ao cl cc] rfl hx (fun u hu => by simp at hu; rcases hu with rfl | rfl | rfl | rfl <;> rfl) (by unfold maxLen; omega) (by omega) (Nat.le_trans hB hg.size)
  refine ⟨v', w', hr, ⟨fun j => if j = k then .slice ao cl cc else C j, ?_, fun j hj => ?_⟩, h5, fun b hb => h1.lt b hb⟩
  · rw [GE_succ]; exact h4
  · by_cases hjk : j = k
    · subst hjk
      simp only [if_true]
      exact hcom.kept h5 (own_ne hcom h1' (by decide))
    · simp only [if_neg hjk]
      have h6 := h2 j (by omega)
      have h7 := h6.kept hg (by cases (C j).ownBlock <;> simp)
      exact h7.kept h5 (own_ne h7 h1' (by decide))

/-- One of the package's elements that lies in memory, and a list of them. -/
def FElIn (w : World) (a : Addr) (e : El) : Prop :=
  w.cell? a = some (.slice e.ca e.cl e.cc) ∧ w.cell? ⟨a.block, a.off + 1, none⟩ = some (.int .i64 e.kind) ∧ w.cell? ⟨a.block, a.off + 2, none⟩ = some (.int .i64 e.blanks) ∧ w.cell? ⟨a.block, a.off + 3, none⟩ = some (.int .i64 e.indent) ∧ StrsIn w e.ca e.cl e.cc e.S

def FElsIn (w : World) (c : Option Addr) (len cap : Nat) (E : Nat → El) : Prop :=
  (c = none ∧ len = 0 ∧ cap = 0) ∨ ∃ a, c = some a ∧ len ≤ cap ∧ cap ≤ maxLen ∧ ∀ i, i < len → FElIn w (a.add (i * 4)) (E i)

theorem FElIn.below {w w' : World} {a : Addr} {e : El} (h : FElIn w a e) (hb : Below w.heap.size w w') : FElIn w' a e := by
  obtain ⟨h0, h1, h2, h3, h4⟩ := h
  exact ⟨cell_later hb h0, cell_later hb h1, cell_later hb h2, cell_later hb h3, h4.below hb⟩

theorem elements_any (c : Option Addr) (len cap : Nat) (E : Nat → El) (w : World) (h : FElsIn w c len cap E) (hlen : len ≤ 100) (hok : ∀ i, i < len → (E i).cl ≤ 20) :
    Calls Try.prog 24 #[.slice c len cap] w fun e w' => ∃ v, e = .returned v ∧ MadeG w' w.heap.size v len E ∧ Below w.heap.size w w' := by
  rcases h with ⟨rfl, rfl, rfl⟩ | ⟨a, rfl, h1, h2, h3⟩
  · go_enter Try.func24, Try.ntmps24
    go_wp2
    go_rounds 1
    go_ret
    exact ⟨_, rfl, madeG_zero _ _ _, by go_grown⟩
  · have HC := Lib.hid h3
    have HO := Lib.hid hok
    clear h3 hok
    go_enter Try.func24, Try.ntmps24
    go_wp2
    go_loopw [3, 8] (fun v i wr => ∃ k : Nat, k ≤ len ∧ i = .int .i64 k ∧ MadeG wr w.heap.size v k E ∧ Below w.heap.size w wr) (fun _ i _ => len - (intOf i).toNat)
    case atStart => exact ⟨0, Nat.zero_le _, rfl, madeG_zero _ _ _, by go_grown⟩
    case round =>
      obtain ⟨k, hk, rfl, hown, hbel⟩ := hrel
      have HW := Lib.hid hown
      have hsz := hbel.size
      clear hown
      by_cases hlt : k < len
      · obtain ⟨c0, c1, c2, c3, hs⟩ := (HC.out k hlt).below hbel
        have hko := HO.out k hlt
        generalize hE : E k = e at *
        obtain ⟨kind, blanks, indent, ca, cl, cc, S⟩ := e
        simp only at c0 c1 c2 c3
        have HE := Lib.hid hE
        have HS := Lib.hid hs
        simp only at hko
        clear hs hE
        go_wp2_with fail
        refine held_begin (S := fun w' => w'.cell? ⟨wr.heap.size, 0, none⟩ = some (.slice ca cl cc) ∧ w'.cell? ⟨wr.heap.size, 1, none⟩ = some (.int .i64 kind) ∧ w'.cell? ⟨wr.heap.size, 2, none⟩ = some (.int .i64 blanks) ∧ w'.cell? ⟨wr.heap.size, 3, none⟩ = some (.int .i64 indent)) 15 (by rfl) (by kernel_rfl) ?_ (fun hHeld => ?_)
        · exact ⟨by simp, by simp, by simp, by simp⟩
        refine held_take 0 (some 12) (v := ?_) rfl rfl (by kernel_rfl) (by kernel_rfl) (by kernel_rfl) (fun _ _ _ _ h => h) (by kernel_rfl) ?_ hHeld ?_
        rotate_left 1
        · intro w hSw; (try dsimp only at hSw); go_simp; (try with_reducible rfl)
        try simp only [List.foldl_cons, List.foldl_nil, List.length_cons, List.length_nil, Act.put, List.setIfInBounds_toArray, List.set_cons_zero, List.set_cons_succ]
        refine held_take 1 (some 13) (v := ?_) rfl rfl (by kernel_rfl) (by kernel_rfl) (by kernel_rfl) (fun _ _ _ _ h => h) (by kernel_rfl) ?_ hHeld ?_
        rotate_left 1
        · intro w hSw; (try dsimp only at hSw); go_simp; (try with_reducible rfl)
        try simp only [List.foldl_cons, List.foldl_nil, List.length_cons, List.length_nil, Act.put, List.setIfInBounds_toArray, List.set_cons_zero, List.set_cons_succ]
        refine held_take 2 (some 14) (v := ?_) rfl rfl (by kernel_rfl) (by kernel_rfl) (by kernel_rfl) (fun _ _ _ _ h => h) (by kernel_rfl) ?_ hHeld ?_
        rotate_left 1
        · intro w hSw; (try dsimp only at hSw); go_simp; (try with_reducible rfl)
        try simp only [List.foldl_cons, List.foldl_nil, List.length_cons, List.length_nil, Act.put, List.setIfInBounds_toArray, List.set_cons_zero, List.set_cons_succ]
        refine held_take 3 (some 15) (v := ?_) rfl rfl (by kernel_rfl) (by kernel_rfl) (by kernel_rfl) (fun _ _ _ _ h => h) (by kernel_rfl) ?_ hHeld ?_
        rotate_left 1
        · intro w hSw; (try dsimp only at hSw); go_simp; (try with_reducible rfl)
        try simp only [List.foldl_cons, List.foldl_nil, List.length_cons, List.length_nil, Act.put, List.setIfInBounds_toArray, List.set_cons_zero, List.set_cons_succ]
        refine held_take 4 (some 16) (v := ?_) rfl rfl (by kernel_rfl) (by kernel_rfl) (by kernel_rfl) (fun _ _ _ _ h => h) (by kernel_rfl) ?_ hHeld ?_
        rotate_left 1
        · intro w hSw; (try dsimp only at hSw); go_simp; (try with_reducible rfl)
        try simp only [List.foldl_cons, List.foldl_nil, List.length_cons, List.length_nil, Act.put, List.setIfInBounds_toArray, List.set_cons_zero, List.set_cons_succ]
        refine held_take 5 (some 17) (v := ?_) rfl rfl (by kernel_rfl) (by kernel_rfl) (by kernel_rfl) (fun _ _ _ _ h => h) (by kernel_rfl) ?_ hHeld ?_
        rotate_left 1
        · intro w hSw; (try dsimp only at hSw); go_simp; (try with_reducible rfl)
        try simp only [List.foldl_cons, List.foldl_nil, List.length_cons, List.length_nil, Act.put, List.setIfInBounds_toArray, List.set_cons_zero, List.set_cons_succ]
        refine held_take 6 (some 18) (v := ?_) rfl rfl (by kernel_rfl) (by kernel_rfl) (by kernel_rfl) (fun _ _ _ _ h => h) (by kernel_rfl) ?_ hHeld ?_
        rotate_left 1
        · intro w hSw; (try dsimp only at hSw); go_simp; (try with_reducible rfl)
        try simp only [List.foldl_cons, List.foldl_nil, List.length_cons, List.length_nil, Act.put, List.setIfInBounds_toArray, List.set_cons_zero, List.set_cons_succ]
        refine held_take 8 (some 20) (v := ?_) rfl rfl (by kernel_rfl) (by kernel_rfl) (by kernel_rfl) (fun _ _ _ _ h => h) (by kernel_rfl) ?_ hHeld ?_
        rotate_left 1
        · intro w hSw; (try dsimp only at hSw); go_simp; (try with_reducible rfl)
        try simp only [List.foldl_cons, List.foldl_nil, List.length_cons, List.length_nil, Act.put, List.setIfInBounds_toArray, List.set_cons_zero, List.set_cons_succ]
        refine held_take 9 (some 21) (v := ?_) rfl rfl (by kernel_rfl) (by kernel_rfl) (by kernel_rfl) (fun _ _ _ _ h => h) (by kernel_rfl) ?_ hHeld ?_
        rotate_left 1
        · intro w hSw; (try dsimp only at hSw); go_simp; (try with_reducible rfl)
        try simp only [List.foldl_cons, List.foldl_nil, List.length_cons, List.length_nil, Act.put, List.setIfInBounds_toArray, List.set_cons_zero, List.set_cons_succ]
        refine wpAnyH_ready (rs := [7]) (by kernel_rfl) (by simp) ?_
        refine AllReadyH.cons rfl (fun K hK => ?_) AllReadyH.nil
        go_simp
        have hOld := hHeld
        clear hHeld
        refine hK.out _ _ ?_ (fun hHeld => ?_)
        · exact ⟨(World.grownBy_alloc _ _ none).cell hOld.1 (by simp), (World.grownBy_alloc _ _ none).cell hOld.2.1 (by simp), (World.grownBy_alloc _ _ none).cell hOld.2.2.1 (by simp), (World.grownBy_alloc _ _ none).cell hOld.2.2.2 (by simp)⟩
        clear hK K hOld
        try simp only [List.foldl_cons, List.foldl_nil, List.length_cons, List.length_nil, Act.put, List.setIfInBounds_toArray, List.set_cons_zero, List.set_cons_succ]
        refine wpAnyH_ready (rs := [10]) (by kernel_rfl) (by simp) ?_
        refine AllReadyH.cons rfl (fun K hK => ?_) AllReadyH.nil
        refine step_append rfl (.tmp 19) (.tmp 21) 26 rfl (copied_any (h := wr.heap.size + 1) ca cl cc S _ (by omega) ?_ ?_) ?_
        · exact HS.out.below (by go_grown)
        · simpa [World.drew] using heap_alloc_new (wr.alloc (.cells #[.slice ca cl cc, .int .i64 kind, .int .i64 blanks, .int .i64 indent] 56)) (.cells #[] 9)
        intro v1 w3 hR
        obtain ⟨hown3, hg3⟩ := hR
        obtain ⟨ao, cp, rfl⟩ := owns_slice hown3
        have hsz3 := hg3.size
        have hOld := hHeld
        clear hHeld
        refine hK.out _ _ ?_ (fun hHeld => ?_)
        · exact ⟨hg3.cell hOld.1 (by simp), hg3.cell hOld.2.1 (by simp), hg3.cell hOld.2.2.1 (by simp), hg3.cell hOld.2.2.2 (by simp)⟩
        clear hK K hOld
        try simp only [List.foldl_cons, List.foldl_nil, List.length_cons, List.length_nil, Act.put, List.setIfInBounds_toArray, List.set_cons_zero, List.set_cons_succ]
        refine held_take 11 (some 23) (v := ?_) rfl rfl (by kernel_rfl) (by kernel_rfl) (by kernel_rfl) (fun _ _ _ _ h => h) (by kernel_rfl) ?_ hHeld ?_
        rotate_left 1
        · intro w hSw; (try dsimp only at hSw); go_simp; (try with_reducible rfl)
        try simp only [List.foldl_cons, List.foldl_nil, List.length_cons, List.length_nil, Act.put, List.setIfInBounds_toArray, List.set_cons_zero, List.set_cons_succ]
        refine wpAnyH_ready (rs := [12]) (by kernel_rfl) (by simp) ?_
        refine AllReadyH.cons rfl (fun K hK => ?_) AllReadyH.nil
        go_simp
        have hOld := hHeld
        clear hHeld
        refine hK.out _ _ ?_ (fun hHeld => ?_)
        · exact ⟨(World.grownBy_alloc _ _ none).cell hOld.1 (by simp), (World.grownBy_alloc _ _ none).cell hOld.2.1 (by simp), (World.grownBy_alloc _ _ none).cell hOld.2.2.1 (by simp), (World.grownBy_alloc _ _ none).cell hOld.2.2.2 (by simp)⟩
        clear hK K hOld
        try simp only [List.foldl_cons, List.foldl_nil, List.length_cons, List.length_nil, Act.put, List.setIfInBounds_toArray, List.set_cons_zero, List.set_cons_succ]
        refine wpAnyH_ready (rs := [13]) (by kernel_rfl) (by simp) ?_
        refine AllReadyH.cons rfl (fun K hK => ?_) AllReadyH.nil
        have hG := grown_chain (o3 := .cells #[.int .i64 kind, .int .i64 blanks, .int .i64 indent, .slice ao cl cp] 28) hg3
        refine step_append rfl (.tmp 12) (.tmp 24) 22 rfl (madeG_append HW.out hsz hG (by omega) ⟨kind, blanks, indent, ca, cl, cc, S⟩ HE.out ao cl cp ?_ ⟨w3.heap.size, 0, none⟩ 1 ?_) ?_
        · exact ((owns_mono hown3 (by omega)).alloc _)
        · intro j u hj
          rcases j with _ | _ | _ | _ | j <;> simp at hj <;> subst hj <;> simp [Addr.add]
        intro v2 w5 hR
        obtain ⟨hM, hg5, hob⟩ := hR
        have hne : some wr.heap.size ≠ u3.ownBlock := fun h => by have := hob _ h.symm; omega
        have hOld := hHeld
        clear hHeld
        refine hK.out _ _ ?_ (fun hHeld => ?_)
        · exact ⟨hg5.cell hOld.1 hne, hg5.cell hOld.2.1 hne, hg5.cell hOld.2.2.1 hne, hg5.cell hOld.2.2.2 hne⟩
        clear hK K hOld
        try simp only [List.foldl_cons, List.foldl_nil, List.length_cons, List.length_nil, Act.put, List.setIfInBounds_toArray, List.set_cons_zero, List.set_cons_succ]
        refine held_take 14 (some 3) (v := ?_) rfl rfl (by kernel_rfl) (by kernel_rfl) (by kernel_rfl) (fun _ _ _ _ h => h) (by kernel_rfl) ?_ hHeld ?_
        rotate_left 1
        · intro w hSw; (try dsimp only at hSw); go_simp; (try with_reducible rfl)
        try simp only [List.foldl_cons, List.foldl_nil, List.length_cons, List.length_nil, Act.put, List.setIfInBounds_toArray, List.set_cons_zero, List.set_cons_succ]
        refine wpAnyH_done (by kernel_rfl) ?_ _
        have hB := below_chain hbel hsz hg3 hg5 hob
        clear hHeld hne hob hg5 hG hg3 hown3 HW
        go_wp2
        go_roundw
        case rel => exact ⟨k + 1, by omega, by go_num, hM, hB⟩
        case measure => simp [intOf]; omega
      · go_wp2
        go_ret
        obtain rfl : k = len := by omega
        exact ⟨_, rfl, HW.out, by go_grown⟩
end Go.Proofs.Ythdlekfnmabldaa
