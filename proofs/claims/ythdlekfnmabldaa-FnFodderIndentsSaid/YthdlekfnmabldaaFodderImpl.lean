/-
  The statements on fodder: the thin package's conversion of fodder.
-/
import Derived.Test.YthdlekfnmabldaaFodderLaw
namespace Go.Proofs.Ythdlekfnmabldaa
open Go.RowKit
set_option linter.unusedSimpArgs false

/-- An append that lies in a region that draws, by what its run is known to leave. -/
theorem step_append {P : Program} {ops : Array Oper} {o : Oper} {a : Act} {w : World} {K : Act → World → Prop} {Q : Exit → Act → World → Prop} {E : Prop} {R : Value → World → Prop}
    (hg : o.guard = none) (s x : Operand) (t : TypeId) (hop : o.op = Op.call { callee := Callee.builtin Builtin.append, args := #[s, x], argTypes := #[t, t] })
    (hrun : ∃ v' w', (Builtin.append_ #[t, t] o.type #[a.eval s, a.eval x]).run P w = .ok v' w' ∧ R v' w')
    (hK : ∀ v' w', R v' w' → K (a.put o.dst v') w') :
    if Region.wanted o (yielded ops a.tmps) = true then Oper.wp P o a w K Q else E := by
  have hw : Region.wanted o (yielded ops a.tmps) = true := by simp [Region.wanted, hg]
  rw [if_pos hw]
  obtain ⟨v', w', hr, h⟩ := hrun
  unfold Oper.wp
  simp [execOp, hop, resolve, invoke, builtin, hr, Result.andThen]
  exact hK v' w' h

/-- Strings as cells. -/
def strs (S : Nat → ByteArray) (n : Nat) : List Value := (List.range n).map fun i => Value.string (S i)

theorem strs_get {S : Nat → ByteArray} {n j : Nat} {u : Value} (h : (strs S n)[j]? = some u) : j < n ∧ u = .string (S j) := by
  unfold strs at h
  rw [List.getElem?_map] at h
  by_cases hj : j < n
  · rw [List.getElem?_range hj] at h
    exact ⟨hj, (Option.some.inj h).symm⟩
  · rw [List.getElem?_eq_none (by simp; omega)] at h
    cases h

theorem infoString : (Try.prog.info? 9).map (fun i => (i.zero, i.size, i.bytes)) = some (some (.string ⟨#[]⟩), 1, 16) := by kernel_rfl
theorem infoFel : (Try.prog.info? 56).map (fun i => (i.zero, i.size, i.bytes)) = some (some (.agg #[.slice none 0 0, .int .i64 0, .int .i64 0, .int .i64 0]), 4, 48) := by kernel_rfl

/-- A comment is copied. -/
theorem copied_any {h : Nat} (ca : Option Addr) (cl cc : Nat) (S : Nat → ByteArray) (w : World) (hcl : cl ≤ 20) (hs : StrsIn w ca cl cc S) (hh : w.heap[h]? = some (.cells #[] 9 (0, 0))) :
    ∃ v' w', (Builtin.append_ #[26, 26] 26 #[.slice (some ⟨h, 0, none⟩) 0 0, .slice ca cl cc]).run Try.prog w = .ok v' w' ∧ (w'.ownsRow h 9 1 v' cl (strs S cl) ∧ w.grownBy w' (some h)) := by
  obtain ⟨i0, hi, hz0, hz1, hz2⟩ := info_parts infoString
  have hlt : h < w.heap.size := (Array.getElem?_eq_some_iff.1 hh).1
  have hown : w.ownsRow h 9 1 (.slice (some ⟨h, 0, none⟩) 0 0) 0 [] := ⟨by simp, .inr ⟨h, 0, #[], rfl, Nat.le_refl _, hh, Nat.le_refl _, Nat.zero_le _, by simp, by simp⟩⟩
  rcases hs with ⟨rfl, rfl, rfl⟩ | ⟨a, rfl, h1, h2, h3⟩
  · have hrun := run_append_owned_none (P := Try.prog) (w := w) h 26 26 9 i0 1 Try.underlying26 hi _ 0 [] hown
    exact ⟨_, _, hrun, hown, World.grownBy.refl _ _⟩
  · obtain ⟨v', w', hr, h4, h5, -⟩ := run_append_own (P := Try.prog) w h 26 26 9 i0 (.string ⟨#[]⟩) 1 16 Try.underlying26 hi hz0 hz1 hz2 rfl (by decide) _ 0 [] hown a cl cc (strs S cl) (by simp [strs])
      (fun j u hj => by obtain ⟨hj1, rfl⟩ := strs_get hj; exact (h3 j hj1).2) (fun u hu => by unfold strs at hu; obtain ⟨j, -, rfl⟩ := List.mem_map.1 hu; rfl) (by unfold maxLen; omega) (by omega) (by omega)
    rw [Nat.zero_add, List.nil_append] at h4
    exact ⟨v', w', hr, h4, h5⟩

/-- The cells of the package's elements. -/
def FE (C : Nat → Value) (E : Nat → El) (k : Nat) : List Value := (List.range k).flatMap fun j => [C j, .int .i64 (E j).kind, .int .i64 (E j).blanks, .int .i64 (E j).indent]

/-- The first k elements are there, their comments too. -/
def Made (w : World) (B : Nat) (v : Value) (k : Nat) (E : Nat → El) : Prop :=
  ∃ C : Nat → Value, w.ownsRow B 56 4 v k (FE C E k) ∧ ∀ j, j < k → w.ownsRow B 9 1 (C j) (E j).cl (strs (E j).S (E j).cl)

theorem own_ne {w : World} {B B' : Nat} {e e' : TypeId} {size size' n n' : Nat} {v v' : Value} {xs xs' : List Value} (h : w.ownsRow B e size v n xs) (h' : w.ownsRow B' e' size' v' n' xs') (hne : e ≠ e') : v.ownBlock = none ∨ v.ownBlock ≠ v'.ownBlock := by
  rcases h.2 with ⟨rfl, -⟩ | ⟨g, cap, cur, rfl, -, hg, -⟩
  · exact .inl rfl
  · rcases h'.2 with ⟨rfl, -⟩ | ⟨g', cap', cur', rfl, -, hg', -⟩
    · exact .inr (fun h => by simp [Value.ownBlock] at h)
    · refine .inr (fun h => ?_)
      have h2 : g = g' := by simpa [Value.ownBlock] using h
      subst h2
      rw [hg] at hg'
      have := Option.some.inj hg'
      simp at this
      exact hne this.2

theorem owns_slice {w : World} {B : Nat} {e : TypeId} {size n : Nat} {v : Value} {xs : List Value} (h : w.ownsRow B e size v n xs) : ∃ ao cap, v = .slice ao n cap := by
  rcases h.2 with ⟨rfl, rfl⟩ | ⟨g, cap, cur, rfl, -⟩
  · exact ⟨_, _, rfl⟩
  · exact ⟨_, _, rfl⟩

theorem owns_mono {w : World} {B B' : Nat} {e : TypeId} {size n : Nat} {v : Value} {xs : List Value} (h : w.ownsRow B e size v n xs) (hb : B' ≤ B) : w.ownsRow B' e size v n xs := by
  refine ⟨h.1, ?_⟩
  rcases h.2 with h1 | ⟨g, cap, cur, h1, h2, h3⟩
  · exact .inl h1
  · exact .inr ⟨g, cap, cur, h1, Nat.le_trans hb h2, h3⟩

theorem grown_drew (w : World) (row : Option Nat) : w.grownBy w.drew row := ⟨rfl, rfl, rfl, Nat.le_refl _, fun _ _ _ => rfl⟩

theorem grown_chain {wr w3 : World} {o1 o2 o3 : Obj} (h : ((wr.alloc o1).alloc o2).drew.grownBy w3 (some (wr.heap.size + 1))) : wr.grownBy (w3.alloc o3) none := by
  have hs : wr.heap.size + 1 + 1 ≤ w3.heap.size := by simpa using h.size
  refine ⟨h.os, h.tape, h.output, by simp; omega, fun k hk _ => ?_⟩
  rw [Below.heap_alloc _ _ _ (by omega), h.block k (by simp; omega) (by simp; omega)]
  show ((wr.alloc o1).alloc o2).heap[k]? = _
  rw [Below.heap_alloc _ _ _ (by simp; omega), Below.heap_alloc _ _ _ hk]

theorem below_chain {B : Nat} {w wr w3 w5 : World} {o1 o2 o3 : Obj} {row : Option Nat} (hb : Below B w wr) (hB : B ≤ wr.heap.size) (h : ((wr.alloc o1).alloc o2).drew.grownBy w3 (some (wr.heap.size + 1))) (h5 : (w3.alloc o3).grownBy w5 row) (hr : ∀ b, row = some b → B ≤ b ∧ b < wr.heap.size) : Below B w w5 := by
  have hG := grown_chain (o3 := o3) h
  exact (hb.grown hG hB (fun k hk => by cases hk)).grown h5 (Nat.le_trans hB hG.size) (fun k hk => (hr k hk).1)

theorem FE_succ (C : Nat → Value) (E : Nat → El) (k : Nat) (com : Value) : FE (fun j => if j = k then com else C j) E (k + 1) = FE C E k ++ [com, .int .i64 (E k).kind, .int .i64 (E k).blanks, .int .i64 (E k).indent] := by
  unfold FE
  rw [List.range_succ, List.flatMap_append]
  congr 1
  · exact Go.Deep.flatMap_congr_range (fun j hj => by show [if j = k then com else C j, _, _, _] = _; rw [if_neg (by omega)])
  · simp

theorem made_append {wr w4 : World} {B k : Nat} {v : Value} {E : Nat → El} (hm : Made wr B v k E) (hB : B ≤ wr.heap.size) (hg : wr.grownBy w4 none) (hk : k ≤ 100) (e : El) (he : E k = e) (ao : Option Addr) (cl cc : Nat)
    (hcom : w4.ownsRow B 9 1 (.slice ao cl cc) e.cl (strs e.S e.cl)) (g : Addr) (c : Nat)
    (hx : ∀ j u, [Value.slice ao cl cc, .int .i64 e.kind, .int .i64 e.blanks, .int .i64 e.indent][j]? = some u → w4.cell? (g.add j) = some u) :
    ∃ v' w', (Builtin.append_ #[41, 41] 41 #[v, .slice (some g) 1 c]).run Try.prog w4 = .ok v' w' ∧ (Made w' B v' (k + 1) E ∧ w4.grownBy w' v.ownBlock ∧ ∀ b, v.ownBlock = some b → B ≤ b ∧ b < wr.heap.size) := by
  subst he
  obtain ⟨C, h1, h2⟩ := hm
  obtain ⟨i0, hi, hz0, hz1, hz2⟩ := info_parts infoFel
  have h1' := h1.kept hg (by cases v.ownBlock <;> simp)
  obtain ⟨v', w', hr, h4, h5, -⟩ := run_append_own (P := Try.prog) w4 B 41 41 56 i0 (.agg #[.slice none 0 0, .int .i64 0, .int .i64 0, .int .i64 0]) 4 48 Try.underlying41 hi hz0 hz1 hz2 rfl (by decide) v k _ h1' g 1 c
    [Value.slice ao cl cc, .int .i64 (E k).kind, .int .i64 (E k).blanks, .int .i64 (E k).indent] rfl hx (fun u hu => by simp at hu; rcases hu with rfl | rfl | rfl | rfl <;> rfl) (by unfold maxLen; omega) (by omega) (Nat.le_trans hB hg.size)
  refine ⟨v', w', hr, ⟨fun j => if j = k then .slice ao cl cc else C j, ?_, fun j hj => ?_⟩, h5, fun b hb => h1.lt b hb⟩
  · rw [FE_succ]; exact h4
  · by_cases hjk : j = k
    · subst hjk
      simp only [if_true]
      exact hcom.kept h5 (own_ne hcom h1' (by decide))
    · simp only [if_neg hjk]
      have h6 := h2 j (by omega)
      have h7 := h6.kept hg (by cases (C j).ownBlock <;> simp)
      exact h7.kept h5 (own_ne h7 h1' (by decide))

theorem made_zero (w : World) (B : Nat) (E : Nat → El) : Made w B (.slice none 0 0) 0 E := ⟨fun _ => .slice none 0 0, World.ownsRow_nil _ _ _ _, fun j hj => absurd hj (by omega)⟩

theorem implFodder_any (c : Option Addr) (len cap : Nat) (E : Nat → El) (w : World) (h : ElsIn w c len cap E) (hlen : len ≤ 100) (hok : ∀ i, i < len → ElOk (E i).kind (E i).cl) :
    Calls Try.prog 20 #[.slice c len cap] w fun e w' => ∃ v, e = .returned (.tuple #[v, .bool true]) ∧ Made w' w.heap.size v len E ∧ Below w.heap.size w w' := by
  rcases h with ⟨rfl, rfl, rfl⟩ | ⟨a, rfl, h1, h2, h3⟩
  · go_enter Try.func20, Try.ntmps20
    go_wp2
    go_rounds 1
    go_ret2
    exact ⟨_, rfl, made_zero _ _ _, by go_grown⟩
  · have HC := Lib.hid h3
    have HO := Lib.hid hok
    clear h3 hok
    go_enter Try.func20, Try.ntmps20
    go_wp2
    go_loopw [4, 9] (fun v i wr => ∃ k : Nat, k ≤ len ∧ i = .int .i64 k ∧ Made wr w.heap.size v k E ∧ Below w.heap.size w wr) (fun _ i _ => len - (intOf i).toNat)
    case atStart => exact ⟨0, Nat.zero_le _, rfl, made_zero _ _ _, by go_grown⟩
    case round =>
      obtain ⟨k, hk, rfl, hown, hbel⟩ := hrel
      have HW := Lib.hid hown
      have hsz := hbel.size
      clear hown
      by_cases hlt : k < len
      · obtain ⟨c0, c1, c2, c3, hs⟩ := (HC.out k hlt).below hbel
        have hko := HO.out k hlt
        generalize hE : E k = e at *
        obtain ⟨kind, blanks, indent, ca, cl, cc, S⟩ := e
        simp only at c0 c1 c2 c3
        have HE := Lib.hid hE
        have HS := Lib.hid hs
        obtain ⟨ko1, ko2, ko3⟩ := hko
        simp only at ko1 ko2 ko3
        clear hs hE
        go_wp2_with fail
        refine held_begin (S := fun w' => w'.cell? ⟨wr.heap.size, 0, none⟩ = some (.int .i64 kind) ∧ w'.cell? ⟨wr.heap.size, 1, none⟩ = some (.int .i64 blanks) ∧ w'.cell? ⟨wr.heap.size, 2, none⟩ = some (.int .i64 indent) ∧ w'.cell? ⟨wr.heap.size, 3, none⟩ = some (.slice ca cl cc)) 15 (by rfl) (by kernel_rfl) ?_ (fun hHeld => ?_)
        · exact ⟨by simp, by simp, by simp, by simp⟩
        refine held_take 0 (some 21) (v := ?_) rfl rfl (by kernel_rfl) (by kernel_rfl) (by kernel_rfl) (fun _ _ _ _ h => h) (by kernel_rfl) ?_ hHeld ?_
        rotate_left 1
        · intro w hSw; (try dsimp only at hSw); go_simp; (try with_reducible rfl)
        try simp only [List.foldl_cons, List.foldl_nil, List.length_cons, List.length_nil, Act.put, List.setIfInBounds_toArray, List.set_cons_zero, List.set_cons_succ]
        refine held_take 1 (some 22) (v := ?_) rfl rfl (by kernel_rfl) (by kernel_rfl) (by kernel_rfl) (fun _ _ _ _ h => h) (by kernel_rfl) ?_ hHeld ?_
        rotate_left 1
        · intro w hSw; (try dsimp only at hSw); go_simp; (try with_reducible rfl)
        try simp only [List.foldl_cons, List.foldl_nil, List.length_cons, List.length_nil, Act.put, List.setIfInBounds_toArray, List.set_cons_zero, List.set_cons_succ]
        refine held_take 2 (some 23) (v := ?_) rfl rfl (by kernel_rfl) (by kernel_rfl) (by kernel_rfl) (fun _ _ _ _ h => h) (by kernel_rfl) ?_ hHeld ?_
        rotate_left 1
        · intro w hSw; (try dsimp only at hSw); go_simp; (try with_reducible rfl)
        try simp only [List.foldl_cons, List.foldl_nil, List.length_cons, List.length_nil, Act.put, List.setIfInBounds_toArray, List.set_cons_zero, List.set_cons_succ]
        refine held_take 3 (some 24) (v := ?_) rfl rfl (by kernel_rfl) (by kernel_rfl) (by kernel_rfl) (fun _ _ _ _ h => h) (by kernel_rfl) ?_ hHeld ?_
        rotate_left 1
        · intro w hSw; (try dsimp only at hSw); go_simp; (try with_reducible rfl)
        try simp only [List.foldl_cons, List.foldl_nil, List.length_cons, List.length_nil, Act.put, List.setIfInBounds_toArray, List.set_cons_zero, List.set_cons_succ]
        refine held_take 4 (some 25) (v := ?_) rfl rfl (by kernel_rfl) (by kernel_rfl) (by kernel_rfl) (fun _ _ _ _ h => h) (by kernel_rfl) ?_ hHeld ?_
        rotate_left 1
        · intro w hSw; (try dsimp only at hSw); go_simp; (try with_reducible rfl)
        try simp only [List.foldl_cons, List.foldl_nil, List.length_cons, List.length_nil, Act.put, List.setIfInBounds_toArray, List.set_cons_zero, List.set_cons_succ]
        refine held_take 5 (some 26) (v := ?_) rfl rfl (by kernel_rfl) (by kernel_rfl) (by kernel_rfl) (fun _ _ _ _ h => h) (by kernel_rfl) ?_ hHeld ?_
        rotate_left 1
        · intro w hSw; (try dsimp only at hSw); go_simp; (try with_reducible rfl)
        try simp only [List.foldl_cons, List.foldl_nil, List.length_cons, List.length_nil, Act.put, List.setIfInBounds_toArray, List.set_cons_zero, List.set_cons_succ]
        refine held_take 6 (some 27) (v := ?_) rfl rfl (by kernel_rfl) (by kernel_rfl) (by kernel_rfl) (fun _ _ _ _ h => h) (by kernel_rfl) ?_ hHeld ?_
        rotate_left 1
        · intro w hSw; (try dsimp only at hSw); go_simp; (try with_reducible rfl)
        try simp only [List.foldl_cons, List.foldl_nil, List.length_cons, List.length_nil, Act.put, List.setIfInBounds_toArray, List.set_cons_zero, List.set_cons_succ]
        refine held_take 8 (some 29) (v := ?_) rfl rfl (by kernel_rfl) (by kernel_rfl) (by kernel_rfl) (fun _ _ _ _ h => h) (by kernel_rfl) ?_ hHeld ?_
        rotate_left 1
        · intro w hSw; (try dsimp only at hSw); go_simp; (try with_reducible rfl)
        try simp only [List.foldl_cons, List.foldl_nil, List.length_cons, List.length_nil, Act.put, List.setIfInBounds_toArray, List.set_cons_zero, List.set_cons_succ]
        refine held_take 9 (some 30) (v := ?_) rfl rfl (by kernel_rfl) (by kernel_rfl) (by kernel_rfl) (fun _ _ _ _ h => h) (by kernel_rfl) ?_ hHeld ?_
        rotate_left 1
        · intro w hSw; (try dsimp only at hSw); go_simp; (try with_reducible rfl)
        try simp only [List.foldl_cons, List.foldl_nil, List.length_cons, List.length_nil, Act.put, List.setIfInBounds_toArray, List.set_cons_zero, List.set_cons_succ]
        refine wpAnyH_ready (rs := [7]) (by kernel_rfl) (by simp) ?_
        refine AllReadyH.cons rfl (fun K hK => ?_) AllReadyH.nil
        go_simp
        have hOld := hHeld
        clear hHeld
        refine hK.out _ _ ?_ (fun hHeld => ?_)
        · exact ⟨(World.grownBy_alloc _ _ none).cell hOld.1 (by simp), (World.grownBy_alloc _ _ none).cell hOld.2.1 (by simp), (World.grownBy_alloc _ _ none).cell hOld.2.2.1 (by simp), (World.grownBy_alloc _ _ none).cell hOld.2.2.2 (by simp)⟩
        clear hK K hOld
        try simp only [List.foldl_cons, List.foldl_nil, List.length_cons, List.length_nil, Act.put, List.setIfInBounds_toArray, List.set_cons_zero, List.set_cons_succ]
        refine wpAnyH_ready (rs := [10]) (by kernel_rfl) (by simp) ?_
        refine AllReadyH.cons rfl (fun K hK => ?_) AllReadyH.nil
        refine step_append rfl (.tmp 28) (.tmp 30) 26 rfl (copied_any (h := wr.heap.size + 1) ca cl cc S _ (by omega) ?_ ?_) ?_
        · exact HS.out.below (by go_grown)
        · simpa [World.drew] using heap_alloc_new (wr.alloc (.cells #[.int .i64 kind, .int .i64 blanks, .int .i64 indent, .slice ca cl cc] 28)) (.cells #[] 9)
        intro v1 w3 hR
        obtain ⟨hown3, hg3⟩ := hR
        obtain ⟨ao, cp, rfl⟩ := owns_slice hown3
        have hsz3 := hg3.size
        have hOld := hHeld
        clear hHeld
        refine hK.out _ _ ?_ (fun hHeld => ?_)
        · exact ⟨hg3.cell hOld.1 (by simp), hg3.cell hOld.2.1 (by simp), hg3.cell hOld.2.2.1 (by simp), hg3.cell hOld.2.2.2 (by simp)⟩
        clear hK K hOld
        try simp only [List.foldl_cons, List.foldl_nil, List.length_cons, List.length_nil, Act.put, List.setIfInBounds_toArray, List.set_cons_zero, List.set_cons_succ]
        refine held_take 11 (some 32) (v := ?_) rfl rfl (by kernel_rfl) (by kernel_rfl) (by kernel_rfl) (fun _ _ _ _ h => h) (by kernel_rfl) ?_ hHeld ?_
        rotate_left 1
        · intro w hSw; (try dsimp only at hSw); go_simp; (try with_reducible rfl)
        try simp only [List.foldl_cons, List.foldl_nil, List.length_cons, List.length_nil, Act.put, List.setIfInBounds_toArray, List.set_cons_zero, List.set_cons_succ]
        refine wpAnyH_ready (rs := [12]) (by kernel_rfl) (by simp) ?_
        refine AllReadyH.cons rfl (fun K hK => ?_) AllReadyH.nil
        go_simp
        have hOld := hHeld
        clear hHeld
        refine hK.out _ _ ?_ (fun hHeld => ?_)
        · exact ⟨(World.grownBy_alloc _ _ none).cell hOld.1 (by simp), (World.grownBy_alloc _ _ none).cell hOld.2.1 (by simp), (World.grownBy_alloc _ _ none).cell hOld.2.2.1 (by simp), (World.grownBy_alloc _ _ none).cell hOld.2.2.2 (by simp)⟩
        clear hK K hOld
        try simp only [List.foldl_cons, List.foldl_nil, List.length_cons, List.length_nil, Act.put, List.setIfInBounds_toArray, List.set_cons_zero, List.set_cons_succ]
        refine wpAnyH_ready (rs := [13]) (by kernel_rfl) (by simp) ?_
        refine AllReadyH.cons rfl (fun K hK => ?_) AllReadyH.nil
        have hG := grown_chain (o3 := .cells #[.slice ao cl cp, .int .i64 kind, .int .i64 blanks, .int .i64 indent] 56) hg3
        refine step_append rfl (.tmp 21) (.tmp 33) 41 rfl (made_append HW.out hsz hG (by omega) ⟨kind, blanks, indent, ca, cl, cc, S⟩ HE.out ao cl cp ?_ ⟨w3.heap.size, 0, none⟩ 1 ?_) ?_
        · exact ((owns_mono hown3 (by omega)).alloc _)
        · intro j u hj
          rcases j with _ | _ | _ | _ | j <;> simp at hj <;> subst hj <;> simp [Addr.add]
        intro v2 w5 hR
        obtain ⟨hM, hg5, hob⟩ := hR
        have hne : some wr.heap.size ≠ u4.ownBlock := fun h => by have := hob _ h.symm; omega
        have hOld := hHeld
        clear hHeld
        refine hK.out _ _ ?_ (fun hHeld => ?_)
        · exact ⟨hg5.cell hOld.1 hne, hg5.cell hOld.2.1 hne, hg5.cell hOld.2.2.1 hne, hg5.cell hOld.2.2.2 hne⟩
        clear hK K hOld
        try simp only [List.foldl_cons, List.foldl_nil, List.length_cons, List.length_nil, Act.put, List.setIfInBounds_toArray, List.set_cons_zero, List.set_cons_succ]
        refine held_take 14 (some 4) (v := ?_) rfl rfl (by kernel_rfl) (by kernel_rfl) (by kernel_rfl) (fun _ _ _ _ h => h) (by kernel_rfl) ?_ hHeld ?_
        rotate_left 1
        · intro w hSw; (try dsimp only at hSw); go_simp; (try with_reducible rfl)
        try simp only [List.foldl_cons, List.foldl_nil, List.length_cons, List.length_nil, Act.put, List.setIfInBounds_toArray, List.set_cons_zero, List.set_cons_succ]
        refine wpAnyH_done (by kernel_rfl) ?_ _
        have hB := below_chain hbel hsz hg3 hg5 hob
        clear hHeld hne hob hg5 hG hg3 hown3 HW
        go_wp2
        go_roundw
        case rel => exact ⟨k + 1, by omega, by go_num, hM, hB⟩
        case measure => simp [intOf]; omega
      · go_wp2
        go_ret2
        obtain rfl : k = len := by omega
        exact ⟨_, rfl, HW.out, by go_grown⟩
end Go.Proofs.Ythdlekfnmabldaa
