/-
  Three appends of one element each in one statement, in whatever order. Generic: no program in sight.
-/
import Derived.Test.YtbdadgkjiondgaaTurn
import Derived.Maps.AppendAt
import Derived.Deep.RegionHeld3
namespace Go.Proofs.Ytbdadgkjiondgaa
open Go.RowKit
set_option linter.unusedSimpArgs false
set_option linter.unusedVariables false

/-- A row that the call owns: its value, how many, which. -/
structure Rec where
  v : Value
  n : Nat
  xs : List Value

def upd {α : Type} (F : Nat → α) (i : Nat) (r : α) : Nat → α := fun j => if j = i then r else F j

theorem upd_same {α : Type} (F : Nat → α) (i : Nat) (r : α) : upd F i r i = r := by simp [upd]
theorem upd_other {α : Type} (F : Nat → α) {i j : Nat} (r : α) (h : j ≠ i) : upd F i r j = F j := by simp [upd, h]

/-- Six rows that lie apart. -/
structure Apart (w : World) (B : Nat) (e : TypeId) (F : Nat → Rec) : Prop where
  own : ∀ i, i < 6 → w.ownsRow B e 1 (F i).v (F i).n (F i).xs
  sep : ∀ i j, i < 6 → j < 6 → i ≠ j → ∀ b, (F i).v.ownBlock = some b → (F j).v.ownBlock ≠ some b

theorem Apart.step {w w' : World} {B : Nat} {e : TypeId} {F : Nat → Rec} (h : Apart w B e F) {i : Nat} (hi : i < 6) (hg : w.grownBy w' (F i).v.ownBlock) (r : Rec) (hr : w'.ownsRow B e 1 r.v r.n r.xs)
    (hb : ∀ b, r.v.ownBlock = some b → (F i).v.ownBlock = some b ∨ w.heap.size ≤ b) : Apart w' B e (upd F i r) := by
  refine ⟨fun j hj => ?_, fun j k hj hk hjk b hb1 => ?_⟩
  · by_cases hji : j = i
    · subst hji; rw [upd_same]; exact hr
    · rw [upd_other _ _ hji]
      refine (h.own j hj).kept hg ?_
      cases hv : (F j).v.ownBlock with
      | none => exact .inl rfl
      | some b => exact .inr (fun hc => h.sep j i hj hi hji b hv hc.symm)
  · by_cases hji : j = i
    · subst hji
      rw [upd_same] at hb1
      have hkj : k ≠ j := fun e => hjk e.symm
      rw [upd_other _ _ hkj]
      intro hc
      rcases hb b hb1 with h1 | h1
      · exact h.sep j k hj hk hjk b h1 hc
      · have := ((h.own k hk).lt b hc).2; omega
    · rw [upd_other _ _ hji] at hb1
      by_cases hki : k = i
      · subst hki
        rw [upd_same]
        intro hc
        rcases hb b hc with h1 | h1
        · exact h.sep j k hj hk hji b hb1 h1
        · have := ((h.own j hj).lt b hb1).2; omega
      · rw [upd_other _ _ hki]
        exact h.sep j k hj hk hjk b hb1

/-- How far the three have come: the way they are listed. -/
def chk (md : Region.Mode) (ops : Array Oper) (L : Nat → Nat → Nat → Array Bool) (b p : Nat → Nat) : Bool :=
  (List.range 3).all fun x => (List.range 3).all fun y => (List.range 3).all fun z =>
    (x + y + z == 6) || (y == 2 && x != 2) || (z == 2 && y != 2) || (let rs := Region.ready md ops (L x y z)
      !(rs.isEmpty) && rs.all (fun i => (x == 0 && i == b 0) || (x == 1 && i == p 0) || (y == 0 && i == b 1) || (y == 1 && i == p 1 && x == 2) || (z == 0 && i == b 2) || (z == 1 && i == p 2 && y == 2)))

def chk2 (L : Nat → Nat → Nat → Array Bool) (b p : Nat → Nat) : Bool :=
  (List.range 3).all fun x => (List.range 3).all fun y => (List.range 3).all fun z =>
    (x != 0 || (L x y z).setIfInBounds (b 0) true == L 1 y z) && (x != 1 || (L x y z).setIfInBounds (p 0) true == L 2 y z) &&
    (y != 0 || (L x y z).setIfInBounds (b 1) true == L x 1 z) && (y != 1 || (L x y z).setIfInBounds (p 1) true == L x 2 z) &&
    (z != 0 || (L x y z).setIfInBounds (b 2) true == L x y 1) && (z != 1 || (L x y z).setIfInBounds (p 2) true == L x y 2)

section
variable {P : Program} {ops : Array Oper} {Q : Exit → Act → World → Prop} {md : Region.Mode}

/-- What is known while the three are on their way. -/
structure OnWay (B : Nat) (e : TypeId) (x : Nat → Value) (R : Nat → Rec) (s : Nat → Nat) (V : Nat → Value) (w : World) (F : Nat → Rec) : Prop where
  apart : Apart w B e F
  fresh : ∀ c, c < 3 → s c = 0 → F (2 * c) = ⟨.slice none 0 0, 0, []⟩ ∧ F (2 * c + 1) = R c
  made : ∀ c, c < 3 → s c = 1 → F (2 * c) = ⟨V (2 * c), 1, [x c]⟩ ∧ (∃ g, V (2 * c) = .slice (some ⟨g, 0, none⟩) 1 1) ∧ F (2 * c + 1) = R c
  done : ∀ c, c < 3 → s c = 2 → F (2 * c + 1) = ⟨V (2 * c + 1), (R c).n + 1, (R c).xs ++ [x c]⟩

theorem wpOp_plain {i : Nat} {o : Oper} {a : Act} {w w' : World} {v : Value} {K : Act → World → Prop} (hi : ops[i]? = some o) (hg : o.guard = none) (hrun : (execOp a.eval o).run P w = .ok (.value v) w') (hK : K (a.put o.dst v) w') : wpOp P ops Q i K a w := by
  unfold wpOp
  rw [hi]
  have hw : Region.wanted o (yielded ops a.tmps) = true := by simp [Region.wanted, hg]
  simp only [hw, if_true]
  refine .inl ?_
  unfold Oper.wp
  rw [hrun]
  exact hK

theorem three {bad : TypeId → Bool} {B B0 : Nat} {w0 : World} {e t : TypeId} {z : Value} {bytes : Nat} (ht : P.underlying t = some (.slice e)) (hinfo : (P.info? e).map (fun i => (i.zero, i.size, i.bytes)) = some (some z, 1, bytes)) (hzs : z.cells.size = 1) (hby : bytes ≤ 1000) (hbad : bad e = true) (hB0 : B0 ≤ B)
    (L : Nat → Nat → Nat → Array Bool) (b p : Nat → Nat) (h1 : chk md ops L b p = true) (h2 : chk2 L b p = true)
    (T : (Nat → Value) → Act) (x : Nat → Value) (R : Nat → Rec) (hx1 : ∀ c, (x c).oneCell' = true) (hn : ∀ c, c < 3 → (R c).n + 1 ≤ 100000000)
    (hb : ∀ c, c < 3 → ∃ o, ops[b c]? = some o ∧ o.guard = none ∧ (∀ V v, (T V).put o.dst v = T (upd V (2 * c) v)) ∧ ∀ V w, (execOp (T V).eval o).run P w = .ok (.value (.slice (some ⟨w.heap.size, 0, none⟩) 1 1)) (w.alloc (.cells #[x c] e)))
    (hp : ∀ c, c < 3 → ∃ o, ops[p c]? = some o ∧ o.guard = none ∧ (∀ V v, (T V).put o.dst v = T (upd V (2 * c + 1) v)) ∧ ∃ ty, ∀ V w v' w', (Builtin.append_ #[t, t] ty #[(R c).v, V (2 * c)]).run P w = .ok v' w' → (execOp (T V).eval o).run P w = .ok (.value v') w')
    (fuel : Nat) (hK : ∀ V w F, OnWay B e x R (fun _ => 2) V w F → Turned bad B0 w0 w → B ≤ w.heap.size → wpAnyH P md ops Q (fun w => Turned bad B0 w0 w) fuel (L 2 2 2) (T V) w) :
    ∀ (m : Nat) (s : Nat → Nat) V w F, s 0 + s 1 + s 2 + m = 6 → (∀ c, c < 3 → s c ≤ 2) → (s 1 = 2 → s 0 = 2) → (s 2 = 2 → s 1 = 2) → OnWay B e x R s V w F → Turned bad B0 w0 w → B ≤ w.heap.size →
      wpAnyH P md ops Q (fun w => Turned bad B0 w0 w) (fuel + m) (L (s 0) (s 1) (s 2)) (T V) w := by
  intro m
  induction m with
  | zero =>
    intro s V w F hs hle hr1 hr2 hJ hT hB
    have e0 := hle 0 (by omega); have e1 := hle 1 (by omega); have e2 := hle 2 (by omega)
    rw [show s 0 = 2 by omega, show s 1 = 2 by omega, show s 2 = 2 by omega]
    refine hK V w F ⟨hJ.apart, fun c hc h => (by simp at h), fun c hc h => (by simp at h), fun c hc _ => hJ.done c hc ?_⟩ hT hB
    rcases (show c = 0 ∨ c = 1 ∨ c = 2 by omega) with rfl | rfl | rfl <;> omega
  | succ m ih =>
    intro s V w F hs hle hr1 hr2 hJ hT hB
    have e0 := hle 0 (by omega); have e1 := hle 1 (by omega); have e2 := hle 2 (by omega)
    obtain ⟨i0, hi, hz0, hz1, hz2⟩ := info_parts hinfo
    -- one chain's step
    have build : ∀ c, c < 3 → s c = 0 → ∀ l', l' = L (upd s c 1 0) (upd s c 1 1) (upd s c 1 2) → wpOp P ops Q (b c) (fun a' w' => Turned bad B0 w0 w' ∧ wpAnyH P md ops Q (fun w => Turned bad B0 w0 w) (fuel + m) l' a' w') (T V) w := by
      intro c hc hsc l' hl'
      obtain ⟨o, ho, hg, hput, hrun⟩ := hb c hc
      refine wpOp_plain ho hg (hrun V w) ?_
      rw [hput, hl']
      have hT' : Turned bad B0 w0 (w.alloc (.cells #[x c] e)) := hT.alloc _
      refine ⟨hT', ih (upd s c 1) _ _ (upd F (2 * c) ⟨.slice (some ⟨w.heap.size, 0, none⟩) 1 1, 1, [x c]⟩) ?_ ?_ ?_ ?_ ?_ hT' (by simp; omega)⟩
      · rcases (show c = 0 ∨ c = 1 ∨ c = 2 by omega) with rfl | rfl | rfl <;> simp [upd] <;> omega
      · intro d hd
        unfold upd
        split
        · omega
        · exact hle d hd
      · rcases (show c = 0 ∨ c = 1 ∨ c = 2 by omega) with rfl | rfl | rfl <;> simp [upd] <;> omega
      · rcases (show c = 0 ∨ c = 1 ∨ c = 2 by omega) with rfl | rfl | rfl <;> simp [upd] <;> omega
      · obtain ⟨hn1, hn2⟩ := hJ.fresh c hc hsc
        refine ⟨hJ.apart.step (by omega) (by rw [hn1]; exact World.grownBy_alloc w _ _) _ ?_ ?_, ?_, ?_, ?_⟩
        · refine ⟨rfl, .inr ⟨w.heap.size, 1, #[x c], rfl, hB, heap_alloc_new w _, Nat.le_refl _, by unfold maxLen; omega, rfl, rfl⟩⟩
        · intro b' hb'
          simp [Value.ownBlock] at hb'
          omega
        · intro d hd hsd
          have hdc : d ≠ c := fun h => by subst h; simp [upd] at hsd
          rw [upd_other _ _ hdc] at hsd
          rw [upd_other _ _ (by omega), upd_other _ _ (by omega)]
          exact hJ.fresh d hd hsd
        · intro d hd hsd
          by_cases hdc : d = c
          · subst hdc
            rw [upd_same, upd_same, upd_other _ _ (by omega)]
            exact ⟨rfl, ⟨_, rfl⟩, hn2⟩
          · rw [upd_other _ _ hdc] at hsd
            rw [upd_other _ _ (by omega), upd_other _ _ (by omega), upd_other _ _ (by omega)]
            exact hJ.made d hd hsd
        · intro d hd hsd
          have hdc : d ≠ c := fun h => by subst h; simp [upd] at hsd
          rw [upd_other _ _ hdc] at hsd
          rw [upd_other _ _ (by omega), upd_other _ _ (by omega)]
          exact hJ.done d hd hsd
    have app : ∀ c, c < 3 → s c = 1 → (c = 1 → s 0 = 2) → (c = 2 → s 1 = 2) → ∀ l', l' = L (upd s c 2 0) (upd s c 2 1) (upd s c 2 2) → wpOp P ops Q (p c) (fun a' w' => Turned bad B0 w0 w' ∧ wpAnyH P md ops Q (fun w => Turned bad B0 w0 w) (fuel + m) l' a' w') (T V) w := by
      intro c hc hsc hch1 hch2 l' hl'
      obtain ⟨o, ho, hg, hput, ty, hrun⟩ := hp c hc
      obtain ⟨hm1, ⟨g, hm2⟩, hm3⟩ := hJ.made c hc hsc
      have hrow := hJ.apart.own (2 * c + 1) (by omega)
      rw [hm3] at hrow
      have hlit := hJ.apart.own (2 * c) (by omega)
      rw [hm1, hm2] at hlit
      have hcell : w.cell? ⟨g, 0, none⟩ = some (x c) := own_cell (n := 1) (xs := [x c]) hlit rfl (by omega) rfl
      obtain ⟨v', w', hr, h4, h5, -, h6⟩ := run_append_own_at (P := P) w B t ty e i0 z 1 bytes ht hi hz0 hz1 hz2 hzs (by decide) (R c).v (R c).n (R c).xs hrow ⟨g, 0, none⟩ 1 1 [x c] rfl
        (fun j u hj => by rcases j with _ | j <;> simp at hj; subst hj; exact (show w.cell? ((⟨g, 0, none⟩ : Addr).add 0) = some (x c) from hcell))
        (fun u hu => by simp at hu; subst hu; exact hx1 c) (by have := hn c hc; unfold maxLen; omega) (by have := Nat.mul_le_mul (hn c hc) hby; omega) hB
      rw [← hm2] at hr
      refine wpOp_plain ho hg (hrun V w v' w' hr) ?_
      rw [hput, hl']
      have hT' : Turned bad B0 w0 w' := hT.own h5 hrow hB0 hbad
      refine ⟨hT', ih (upd s c 2) _ _ (upd F (2 * c + 1) ⟨v', (R c).n + 1, (R c).xs ++ [x c]⟩) ?_ ?_ ?_ ?_ ?_ hT' (by have := h5.size; omega)⟩
      · rcases (show c = 0 ∨ c = 1 ∨ c = 2 by omega) with rfl | rfl | rfl <;> simp [upd] <;> omega
      · intro d hd
        unfold upd
        split
        · omega
        · exact hle d hd
      · rcases (show c = 0 ∨ c = 1 ∨ c = 2 by omega) with rfl | rfl | rfl <;> simp [upd] <;> omega
      · rcases (show c = 0 ∨ c = 1 ∨ c = 2 by omega) with rfl | rfl | rfl <;> simp [upd] <;> omega
      · refine ⟨hJ.apart.step (by omega) (by rw [hm3]; exact h5) _ h4 ?_, ?_, ?_, ?_⟩
        · intro b' hb'
          rw [hm3]
          rcases h6 with h6 | h6
          · exact .inl (h6 ▸ hb')
          · rw [h6] at hb'; right; have := Option.some.inj hb'; omega
        · intro d hd hsd
          have hdc : d ≠ c := fun h => by subst h; simp [upd] at hsd
          rw [upd_other _ _ hdc] at hsd
          rw [upd_other _ _ (by omega), upd_other _ _ (by omega)]
          exact hJ.fresh d hd hsd
        · intro d hd hsd
          have hdc : d ≠ c := fun h => by subst h; simp [upd] at hsd
          rw [upd_other _ _ hdc] at hsd
          rw [upd_other _ _ (by omega), upd_other _ _ (by omega), upd_other _ _ (by omega)]
          exact hJ.made d hd hsd
        · intro d hd hsd
          by_cases hdc : d = c
          · subst hdc
            rw [upd_same, upd_same]
          · rw [upd_other _ _ hdc] at hsd
            rw [upd_other _ _ (by omega), upd_other _ _ (by omega)]
            exact hJ.done d hd hsd
    have q1 := h1; have q2 := h2
    unfold chk at q1; unfold chk2 at q2
    simp only [List.all_eq_true, List.mem_range] at q1 q2
    have r1 := q1 (s 0) (by omega) (s 1) (by omega) (s 2) (by omega)
    have r2 := q2 (s 0) (by omega) (s 1) (by omega) (s 2) (by omega)
    simp only [Bool.or_eq_true, beq_iff_eq, Bool.and_eq_true, Bool.not_eq_true', List.all_eq_true, bne_iff_ne, ne_eq] at r1 r2
    have r3 : (Region.ready md ops (L (s 0) (s 1) (s 2))).isEmpty = false ∧ ∀ i ∈ Region.ready md ops (L (s 0) (s 1) (s 2)), (((((s 0 = 0 ∧ i = b 0) ∨ (s 0 = 1 ∧ i = p 0)) ∨ (s 1 = 0 ∧ i = b 1)) ∨ ((s 1 = 1 ∧ i = p 1) ∧ s 0 = 2)) ∨ (s 2 = 0 ∧ i = b 2)) ∨ ((s 2 = 1 ∧ i = p 2) ∧ s 1 = 2) := by
      rcases r1 with ((h | h) | h) | h
      · omega
      · exact absurd (hr1 h.1) h.2
      · exact absurd (hr2 h.1) h.2
      · exact h
    obtain ⟨r1a, r1b⟩ := r3
    obtain ⟨⟨⟨⟨⟨g1, g2⟩, g3⟩, g4⟩, g5⟩, g6⟩ := r2
    refine wpAnyH_all rfl (by intro h; rw [h] at r1a; simp at r1a) (fun i hi => ?_)
    rcases r1b i hi with ((((⟨h, rfl⟩ | ⟨h, rfl⟩) | ⟨h, rfl⟩) | ⟨⟨h, rfl⟩, h'⟩) | ⟨h, rfl⟩) | ⟨⟨h, rfl⟩, h'⟩
    · exact build 0 (by omega) h _ (by simpa [upd, h] using g1)
    · exact app 0 (by omega) h (by omega) (by omega) _ (by simpa [upd, h] using g2)
    · exact build 1 (by omega) h _ (by simpa [upd, h] using g3)
    · exact app 1 (by omega) h (fun _ => h') (by omega) _ (by simpa [upd, h] using g4)
    · exact build 2 (by omega) h _ (by simpa [upd, h] using g5)
    · exact app 2 (by omega) h (by omega) (fun _ => h') _ (by simpa [upd, h] using g6)

/-- An act with six slots as said. -/
def sixSet (a : Act) (sl : Nat → Nat) (V : Nat → Value) : Act :=
  { a with tmps := (((((a.tmps.setIfInBounds (sl 0) (V 0)).setIfInBounds (sl 1) (V 1)).setIfInBounds (sl 2) (V 2)).setIfInBounds (sl 3) (V 3)).setIfInBounds (sl 4) (V 4)).setIfInBounds (sl 5) (V 5) }

theorem cm {t : Array Value} {i j : Nat} {u v : Value} (h : j ≠ i) : (t.setIfInBounds j u).setIfInBounds i v = (t.setIfInBounds i v).setIfInBounds j u := Array.setIfInBounds_comm _ _ h

theorem six_put0 (t : Array Value) (s0 s1 s2 s3 s4 s5 : Nat) (v0 v1 v2 v3 v4 v5 v : Value) (h1 : s1 ≠ s0) (h2 : s2 ≠ s0) (h3 : s3 ≠ s0) (h4 : s4 ≠ s0) (h5 : s5 ≠ s0) : ((((((t.setIfInBounds s0 v0).setIfInBounds s1 v1).setIfInBounds s2 v2).setIfInBounds s3 v3).setIfInBounds s4 v4).setIfInBounds s5 v5).setIfInBounds s0 v = ((((((t.setIfInBounds s0 v).setIfInBounds s1 v1).setIfInBounds s2 v2).setIfInBounds s3 v3).setIfInBounds s4 v4).setIfInBounds s5 v5) := by
  rw [cm h5, cm h4, cm h3, cm h2, cm h1, Array.setIfInBounds_setIfInBounds]

theorem six_put1 (t : Array Value) (s0 s1 s2 s3 s4 s5 : Nat) (v0 v1 v2 v3 v4 v5 v : Value) (h2 : s2 ≠ s1) (h3 : s3 ≠ s1) (h4 : s4 ≠ s1) (h5 : s5 ≠ s1) : ((((((t.setIfInBounds s0 v0).setIfInBounds s1 v1).setIfInBounds s2 v2).setIfInBounds s3 v3).setIfInBounds s4 v4).setIfInBounds s5 v5).setIfInBounds s1 v = ((((((t.setIfInBounds s0 v0).setIfInBounds s1 v).setIfInBounds s2 v2).setIfInBounds s3 v3).setIfInBounds s4 v4).setIfInBounds s5 v5) := by
  rw [cm h5, cm h4, cm h3, cm h2, Array.setIfInBounds_setIfInBounds]

theorem six_put2 (t : Array Value) (s0 s1 s2 s3 s4 s5 : Nat) (v0 v1 v2 v3 v4 v5 v : Value) (h3 : s3 ≠ s2) (h4 : s4 ≠ s2) (h5 : s5 ≠ s2) : ((((((t.setIfInBounds s0 v0).setIfInBounds s1 v1).setIfInBounds s2 v2).setIfInBounds s3 v3).setIfInBounds s4 v4).setIfInBounds s5 v5).setIfInBounds s2 v = ((((((t.setIfInBounds s0 v0).setIfInBounds s1 v1).setIfInBounds s2 v).setIfInBounds s3 v3).setIfInBounds s4 v4).setIfInBounds s5 v5) := by
  rw [cm h5, cm h4, cm h3, Array.setIfInBounds_setIfInBounds]

theorem six_put3 (t : Array Value) (s0 s1 s2 s3 s4 s5 : Nat) (v0 v1 v2 v3 v4 v5 v : Value) (h4 : s4 ≠ s3) (h5 : s5 ≠ s3) : ((((((t.setIfInBounds s0 v0).setIfInBounds s1 v1).setIfInBounds s2 v2).setIfInBounds s3 v3).setIfInBounds s4 v4).setIfInBounds s5 v5).setIfInBounds s3 v = ((((((t.setIfInBounds s0 v0).setIfInBounds s1 v1).setIfInBounds s2 v2).setIfInBounds s3 v).setIfInBounds s4 v4).setIfInBounds s5 v5) := by
  rw [cm h5, cm h4, Array.setIfInBounds_setIfInBounds]

theorem six_put4 (t : Array Value) (s0 s1 s2 s3 s4 s5 : Nat) (v0 v1 v2 v3 v4 v5 v : Value) (h5 : s5 ≠ s4) : ((((((t.setIfInBounds s0 v0).setIfInBounds s1 v1).setIfInBounds s2 v2).setIfInBounds s3 v3).setIfInBounds s4 v4).setIfInBounds s5 v5).setIfInBounds s4 v = ((((((t.setIfInBounds s0 v0).setIfInBounds s1 v1).setIfInBounds s2 v2).setIfInBounds s3 v3).setIfInBounds s4 v).setIfInBounds s5 v5) := by
  rw [cm h5, Array.setIfInBounds_setIfInBounds]

theorem six_put5 (t : Array Value) (s0 s1 s2 s3 s4 s5 : Nat) (v0 v1 v2 v3 v4 v5 v : Value)  : ((((((t.setIfInBounds s0 v0).setIfInBounds s1 v1).setIfInBounds s2 v2).setIfInBounds s3 v3).setIfInBounds s4 v4).setIfInBounds s5 v5).setIfInBounds s5 v = ((((((t.setIfInBounds s0 v0).setIfInBounds s1 v1).setIfInBounds s2 v2).setIfInBounds s3 v3).setIfInBounds s4 v4).setIfInBounds s5 v) := by
  rw [Array.setIfInBounds_setIfInBounds]

theorem sixSet_put (a : Act) (sl : Nat → Nat) (hsl : ∀ i j, i < 6 → j < 6 → i ≠ j → sl i ≠ sl j) (V : Nat → Value) (i : Nat) (hi : i < 6) (v : Value) : (sixSet a sl V).put (some (sl i)) v = sixSet a sl (upd V i v) := by
  have hne : ∀ k, i < k → k < 6 → sl k ≠ sl i := fun k h1 h2 => hsl k i h2 hi (by omega)
  rcases (show i = 0 ∨ i = 1 ∨ i = 2 ∨ i = 3 ∨ i = 4 ∨ i = 5 by omega) with rfl | rfl | rfl | rfl | rfl | rfl
  · have h := six_put0 a.tmps (sl 0) (sl 1) (sl 2) (sl 3) (sl 4) (sl 5) (V 0) (V 1) (V 2) (V 3) (V 4) (V 5) v (hne 1 (by decide) (by decide)) (hne 2 (by decide) (by decide)) (hne 3 (by decide) (by decide)) (hne 4 (by decide) (by decide)) (hne 5 (by decide) (by decide))
    unfold sixSet
    rw [upd_same, upd_other V v (show 1 ≠ 0 by decide), upd_other V v (show 2 ≠ 0 by decide), upd_other V v (show 3 ≠ 0 by decide), upd_other V v (show 4 ≠ 0 by decide), upd_other V v (show 5 ≠ 0 by decide)]
    show Act.mk _ _ = _
    rw [h]
  · have h := six_put1 a.tmps (sl 0) (sl 1) (sl 2) (sl 3) (sl 4) (sl 5) (V 0) (V 1) (V 2) (V 3) (V 4) (V 5) v (hne 2 (by decide) (by decide)) (hne 3 (by decide) (by decide)) (hne 4 (by decide) (by decide)) (hne 5 (by decide) (by decide))
    unfold sixSet
    rw [upd_same, upd_other V v (show 0 ≠ 1 by decide), upd_other V v (show 2 ≠ 1 by decide), upd_other V v (show 3 ≠ 1 by decide), upd_other V v (show 4 ≠ 1 by decide), upd_other V v (show 5 ≠ 1 by decide)]
    show Act.mk _ _ = _
    rw [h]
  · have h := six_put2 a.tmps (sl 0) (sl 1) (sl 2) (sl 3) (sl 4) (sl 5) (V 0) (V 1) (V 2) (V 3) (V 4) (V 5) v (hne 3 (by decide) (by decide)) (hne 4 (by decide) (by decide)) (hne 5 (by decide) (by decide))
    unfold sixSet
    rw [upd_same, upd_other V v (show 0 ≠ 2 by decide), upd_other V v (show 1 ≠ 2 by decide), upd_other V v (show 3 ≠ 2 by decide), upd_other V v (show 4 ≠ 2 by decide), upd_other V v (show 5 ≠ 2 by decide)]
    show Act.mk _ _ = _
    rw [h]
  · have h := six_put3 a.tmps (sl 0) (sl 1) (sl 2) (sl 3) (sl 4) (sl 5) (V 0) (V 1) (V 2) (V 3) (V 4) (V 5) v (hne 4 (by decide) (by decide)) (hne 5 (by decide) (by decide))
    unfold sixSet
    rw [upd_same, upd_other V v (show 0 ≠ 3 by decide), upd_other V v (show 1 ≠ 3 by decide), upd_other V v (show 2 ≠ 3 by decide), upd_other V v (show 4 ≠ 3 by decide), upd_other V v (show 5 ≠ 3 by decide)]
    show Act.mk _ _ = _
    rw [h]
  · have h := six_put4 a.tmps (sl 0) (sl 1) (sl 2) (sl 3) (sl 4) (sl 5) (V 0) (V 1) (V 2) (V 3) (V 4) (V 5) v (hne 5 (by decide) (by decide))
    unfold sixSet
    rw [upd_same, upd_other V v (show 0 ≠ 4 by decide), upd_other V v (show 1 ≠ 4 by decide), upd_other V v (show 2 ≠ 4 by decide), upd_other V v (show 3 ≠ 4 by decide), upd_other V v (show 5 ≠ 4 by decide)]
    show Act.mk _ _ = _
    rw [h]
  · have h := six_put5 a.tmps (sl 0) (sl 1) (sl 2) (sl 3) (sl 4) (sl 5) (V 0) (V 1) (V 2) (V 3) (V 4) (V 5) v
    unfold sixSet
    rw [upd_same, upd_other V v (show 0 ≠ 5 by decide), upd_other V v (show 1 ≠ 5 by decide), upd_other V v (show 2 ≠ 5 by decide), upd_other V v (show 3 ≠ 5 by decide), upd_other V v (show 4 ≠ 5 by decide)]
    show Act.mk _ _ = _
    rw [h]

theorem set_self (t : Array Value) (j : Nat) : t.setIfInBounds j (t.getD j undef) = t := by
  apply Array.ext_getElem?
  intro k
  rw [Array.getElem?_setIfInBounds]
  split
  · rename_i h
    subst h
    split
    · rename_i h2
      simp [h2]
    · rename_i h2
      rw [Array.getElem?_eq_none (by omega)]
  · rfl

theorem sixSet_self (a : Act) (sl : Nat → Nat) : sixSet a sl (fun i => a.tmps.getD (sl i) undef) = a := by
  unfold sixSet
  simp only [set_self]

/-- Three rows, and three appends of one element each. -/
theorem three_rows {bad : TypeId → Bool} {B B0 : Nat} {w0 : World} {e t : TypeId} {z : Value} {bytes : Nat} (ht : P.underlying t = some (.slice e)) (hinfo : (P.info? e).map (fun i => (i.zero, i.size, i.bytes)) = some (some z, 1, bytes)) (hzs : z.cells.size = 1) (hby : bytes ≤ 1000) (hbad : bad e = true) (hB0 : B0 ≤ B)
    (L : Nat → Nat → Nat → Array Bool) (b p : Nat → Nat) (h1 : chk md ops L b p = true) (h2 : chk2 L b p = true)
    (a : Act) (sl : Nat → Nat) (hsl : ∀ i j, i < 6 → j < 6 → i ≠ j → sl i ≠ sl j) (x : Nat → Value) (R : Nat → Rec) (hx1 : ∀ c, (x c).oneCell' = true) (hn : ∀ c, c < 3 → (R c).n + 1 ≤ 100000000)
    (hb : ∀ c, c < 3 → ∃ o, ops[b c]? = some o ∧ o.guard = none ∧ o.dst = some (sl (2 * c)) ∧ ∀ V w, (execOp (sixSet a sl V).eval o).run P w = .ok (.value (.slice (some ⟨w.heap.size, 0, none⟩) 1 1)) (w.alloc (.cells #[x c] e)))
    (hp : ∀ c, c < 3 → ∃ o, ops[p c]? = some o ∧ o.guard = none ∧ o.dst = some (sl (2 * c + 1)) ∧ ∃ ty, ∀ V w v' w', (Builtin.append_ #[t, t] ty #[(R c).v, V (2 * c)]).run P w = .ok v' w' → (execOp (sixSet a sl V).eval o).run P w = .ok (.value v') w')
    (fuel n : Nat) (hfn : n = fuel + 6) (listed : Array Bool) (hl : listed = L 0 0 0) (hB : B ≤ w0.heap.size) (hown : ∀ c, c < 3 → w0.ownsRow B e 1 (R c).v (R c).n (R c).xs) (hsep : ∀ c d, c < 3 → d < 3 → c ≠ d → ∀ k, (R c).v.ownBlock = some k → (R d).v.ownBlock ≠ some k)
    (hK : ∀ V w, Turned bad B0 w0 w → (∀ c, c < 3 → w.ownsRow B e 1 (V (2 * c + 1)) ((R c).n + 1) ((R c).xs ++ [x c])) → (∀ c d, c < 3 → d < 3 → c ≠ d → ∀ k, (V (2 * c + 1)).ownBlock = some k → (V (2 * d + 1)).ownBlock ≠ some k) →
      wpAnyH P md ops Q (fun w => Turned bad B0 w0 w) fuel (L 2 2 2) (sixSet a sl V) w) :
    wpAnyH P md ops Q (fun w => Turned bad B0 w0 w) n listed a w0 := by
  subst hfn hl
  have hJ : OnWay B e x R (fun _ => 0) (fun i => a.tmps.getD (sl i) undef) w0 (fun i => if i % 2 = 0 then ⟨.slice none 0 0, 0, []⟩ else R (i / 2)) := by
    refine ⟨⟨fun i hi => ?_, fun i j hi hj hij k hk => ?_⟩, fun c hc _ => ?_, fun c hc h => by simp at h, fun c hc h => by simp at h⟩
    · by_cases h : i % 2 = 0
      · simp only [if_pos h]; exact World.ownsRow_nil _ _ _ _
      · simp only [if_neg h]; exact hown _ (by omega)
    · by_cases h : i % 2 = 0
      · simp [h, Value.ownBlock] at hk
      · simp only [if_neg h] at hk
        by_cases h' : j % 2 = 0
        · simp [h', Value.ownBlock]
        · simp only [if_neg h']
          exact hsep _ _ (by omega) (by omega) (by omega) k hk
    · have e1 : (2 * c) % 2 = 0 := by omega
      have e2 : ¬ (2 * c + 1) % 2 = 0 := by omega
      have e3 : (2 * c + 1) / 2 = c := by omega
      simp only [e1, e2, e3, if_true, if_false]
      exact ⟨trivial, trivial⟩
  have := three (P := P) (ops := ops) (Q := Q) (md := md) (bad := bad) (B := B) (B0 := B0) (w0 := w0) ht hinfo hzs hby hbad hB0 L b p h1 h2 (sixSet a sl) x R hx1 hn
    (fun c hc => by
      obtain ⟨o, g1, g2, g3, g4⟩ := hb c hc
      exact ⟨o, g1, g2, fun V v => by rw [g3]; exact sixSet_put a sl hsl V _ (by omega) v, g4⟩)
    (fun c hc => by
      obtain ⟨o, g1, g2, g3, ty, g4⟩ := hp c hc
      exact ⟨o, g1, g2, fun V v => by rw [g3]; exact sixSet_put a sl hsl V _ (by omega) v, ty, g4⟩)
    fuel (fun V w F hF hT hBw => hK V w hT (fun c hc => by
        have := hF.apart.own (2 * c + 1) (by omega)
        rw [hF.done c hc rfl] at this
        exact this) (fun c d hc hd hcd k hk => by
        have := hF.apart.sep (2 * c + 1) (2 * d + 1) (by omega) (by omega) (by omega) k
        rw [hF.done c hc rfl, hF.done d hd rfl] at this
        exact this hk))
    6 (fun _ => 0) (fun i => a.tmps.getD (sl i) undef) w0 _ rfl (fun c hc => by simp) (fun h => by simp at h) (fun h => by simp at h) hJ (Turned.refl _ _ _) hB
  rw [sixSet_self] at this
  exact this
end
end Go.Proofs.Ytbdadgkjiondgaa
