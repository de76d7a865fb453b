/-
  FnSeen, FnStepsRemoved: maps of fields, and of how they are seen.
-/
import Derived.Test.YtbdadgkjiondgaaDoorSeeLaw
import Derived.Test.YtbdadgkjiondgaaDoorTurn
import Derived.Test.YtbdadgkjiondgaaDoorStrs
import Derived.Maps.RangeWalk
import Derived.Maps.Ext
import Derived.Deep.RegionLaw
namespace Go.Proofs.YtbdadgkjiondgaaDoor.see
open Go.RowKit Go.Maps Go.WideMaps
set_option linter.unusedSimpArgs false
set_option linter.unusedVariables false

/-- A map's datum says what a function says. -/
def Reads (D : DataW Unit) (f : View) : Prop := ∀ x : Nm, Maps.has D (.string x) = (f x).isSome ∧ ∀ h, f x = some h → ∀ z, D.atKey (.string x) z = .lit (.int .i64 h)

theorem str_ne {x y : Nm} (h : x ≠ y) : (Lit.string x) ≠ Lit.string y := fun e => h (by cases e; rfl)

theorem reads_nil : Reads (.map []) (fun _ => none) := fun x => ⟨rfl, fun h e => by cases e⟩

theorem Reads.put {D : DataW Unit} {f : View} (h : Reads D f) (hm : IsMap D) (x : Nm) (c : Int) : Reads (D.put (.string x) (.lit (.int .i64 c))) (fun y => if y = x then some c else f y) := by
  intro y
  by_cases e : y = x
  · subst e
    rw [has_put_same (k := .string y) hm trivial]
    simp only [if_true]
    exact ⟨rfl, fun q hq z => by cases hq; exact atKey_put_same (k := .string y) hm trivial _ _⟩
  · simp only [if_neg e]
    rw [has_put_other (str_ne e)]
    exact ⟨(h y).1, fun q hq z => by rw [atKey_put_other (str_ne e)]; exact (h y).2 q hq z⟩

theorem Reads.del {D : DataW Unit} {f : View} (h : Reads D f) (x : Nm) : Reads (D.del (.string x)) (drop f x) := by
  intro y
  unfold drop
  by_cases e : y = x
  · subst e
    rw [has_del_same]
    simp
  · simp only [if_neg e]
    rw [has_del_other (str_ne e)]
    exact ⟨(h y).1, fun q hq z => by rw [atKey_del_other (str_ne e)]; exact (h y).2 q hq z⟩

theorem lawS : Keyed Tryd.prog 9 := string_keyed Tryd.underlying9

/-- How an element of a flat object reads. -/
noncomputable def fv (v : Value) : Option (DataW Unit × List MemPlace) :=
  open Classical in if h : ∃ c : Int, v = .agg #[.nilIface, .int .i64 c] ∧ (Lit.int .i64 c).wf = true then some (.lit (.int .i64 h.choose), []) else none

theorem fv_mk {c : Int} (hc : (Lit.int .i64 c).wf = true) : fv (.agg #[.nilIface, .int .i64 c]) = some (.lit (.int .i64 c), []) := by
  have h : ∃ c' : Int, (Value.agg #[.nilIface, .int .i64 c]) = .agg #[.nilIface, .int .i64 c'] ∧ (Lit.int .i64 c').wf = true := ⟨c, rfl, hc⟩
  have e : h.choose = c := by
    have hu : ∀ c' : Int, (Value.agg #[.nilIface, .int .i64 c]) = .agg #[.nilIface, .int .i64 c'] → c = c' := fun c' e => by simpa using e
    exact (hu _ h.choose_spec.1).symm
  unfold fv
  rw [dif_pos h, e]

theorem fv_inv {v : Value} {y : DataW Unit × List MemPlace} (h : fv v = some y) : ∃ c : Int, v = .agg #[.nilIface, .int .i64 c] ∧ (Lit.int .i64 c).wf = true ∧ y = (.lit (.int .i64 c), []) := by
  unfold fv at h
  split at h
  · rename_i hc
    refine ⟨_, hc.choose_spec.1, hc.choose_spec.2, (Option.some.inj h).symm⟩
  · cases h

theorem keyS_inv {s : ByteArray} {kl : Lit} (h : keyOf Tryd.prog 9 (.string s) = some kl) : kl = .string s.data.toList ∧ s.size ≤ maxLen := by
  by_cases hs : s.size ≤ maxLen
  · rw [keyOf_string_mk Tryd.underlying9 hs] at h
    exact ⟨(Option.some.inj h).symm, hs⟩
  · exfalso
    rw [keyOf_string Tryd.underlying9] at h
    simp [mapKey, Tryd.underlying9, hs] at h

theorem keyS_ex {key : Value} {kl : Lit} (h : keyOf Tryd.prog 9 key = some kl) : ∃ s : ByteArray, key = .string s := by
  have h' := h
  rw [keyOf_string Tryd.underlying9] at h
  cases key <;> simp [mapKey, Tryd.underlying9] at h
  exact ⟨_, rfl⟩

/-- How a thing is seen, or a number: the elements. -/
def HM (e : TypeId) (w : World) (b n : Nat) (f : View) : Prop := ∃ D, w.ownsMap Tryd.prog 9 (plainElem (H := Unit) Tryd.prog e) b n D ∧ Reads D f

/-- A flat object's fields. -/
def SM (w : World) (b n : Nat) (f : View) : Prop := ∃ D, w.ownsMap Tryd.prog 9 fv b n D ∧ Reads D f

theorem HM.kept {e : TypeId} {w w' : World} {b n : Nat} {f : View} {row : Option Nat} (h : HM e w b n f) (hg : w.grownBy w' row) (hne : some b ≠ row) : HM e w' b n f := by
  obtain ⟨D, h1, h2⟩ := h
  exact ⟨D, h1.kept hg hne, h2⟩
theorem HM.below {e : TypeId} {w w' : World} {b n : Nat} {f : View} (h : HM e w b n f) (hb : Below w.heap.size w w') : HM e w' b n f := h.kept (grown_of_below hb) (by simp)
theorem HM.mono {e : TypeId} {w : World} {b n n' : Nat} {f : View} (h : HM e w b n f) (hn : n ≤ n') : HM e w b n' f := by
  obtain ⟨D, h1, h2⟩ := h
  exact ⟨D, h1.mono hn, h2⟩
theorem HM.lt {e : TypeId} {w : World} {b n : Nat} {f : View} (h : HM e w b n f) : b < w.heap.size := by
  obtain ⟨D, h1, h2⟩ := h
  exact h1.lt
theorem SM.below {w w' : World} {b n : Nat} {f : View} (h : SM w b n f) (hb : Below w.heap.size w w') : SM w' b n f := by
  obtain ⟨D, h1, h2⟩ := h
  exact ⟨D, h1.kept (grown_of_below hb) (by simp), h2⟩
theorem SM.mono {w : World} {b n n' : Nat} {f : View} (h : SM w b n f) (hn : n ≤ n') : SM w b n' f := by
  obtain ⟨D, h1, h2⟩ := h
  exact ⟨D, h1.mono hn, h2⟩

theorem hm_made (e : TypeId) (w : World) : HM e (w.alloc (.map #[] 0)) w.heap.size 0 (fun _ => none) := ⟨_, World.ownsMap_made _ _ _ _, reads_nil⟩
theorem sm_made (w : World) : SM (w.alloc (.map #[] 0)) w.heap.size 0 (fun _ => none) := ⟨_, World.ownsMap_made _ _ _ _, reads_nil⟩

/-- What a map says while another one is being laid upon it. -/
def mix (f g : View) (left : Lit → Bool) : View := fun y => if left (.string y) = true then f y else ext f g y

theorem mix_start {f g : View} {D : DataW Unit} (h : Reads D g) : mix f g (Maps.has D) = f := by
  funext y
  unfold mix
  cases hg : Maps.has D (.string y) with
  | true => simp
  | false =>
    have := (h y).1
    rw [hg] at this
    unfold ext
    cases hy : g y with
    | none => simp
    | some q => rw [hy] at this; cases this

theorem mix_end {f g : View} {left : Lit → Bool} (h : ∀ kl, left kl = false) : mix f g left = ext f g := by
  funext y
  unfold mix
  simp [h]

theorem same_str (x y : Nm) : (Lit.string y).sameKey (.string x) = decide (y = x) := by
  by_cases h : y = x
  · subst h; simp [Lit.sameKey]
  · rw [sameKey_ne (str_ne h)]
    simp [h]

theorem mix_step {f g : View} {left : Lit → Bool} {x : Nm} : mix f g (fun z => left z && !z.sameKey (.string x)) = fun y => if y = x then ext f g x else mix f g left y := by
  funext y
  show (if (left (.string y) && !(Lit.string y).sameKey (.string x)) = true then f y else ext f g y) = (if y = x then ext f g x else (if left (.string y) = true then f y else ext f g y))
  rw [same_str]
  by_cases h : y = x
  · subst h; simp
  · simp [h]

theorem mix_at {f g : View} {left : Lit → Bool} {x : Nm} (h : left (.string x) = true) : mix f g left x = f x := by
  unfold mix
  rw [if_pos h]

theorem reads_at {D : DataW Unit} {g : View} (h : Reads D g) {x : Nm} {c : Int} (hat : ∀ z, D.atKey (.string x) z = .lit (.int .i64 c)) : g x = some c := by
  have h1 := has_true_of_atKey hat
  have h2 := (h x).1
  rw [h1] at h2
  cases hg : g x with
  | none => rw [hg] at h2; cases h2
  | some q =>
    have := (h x).2 q hg .nil
    rw [hat .nil] at this
    cases this
    rfl

section
variable (w : World) {ops : Array Oper} {rest : List Oper} {o : Oper} {a : Act} {Q : Exit → Act → World → Prop}

/-- A step over a map of ints. -/
theorem next_si (e : TypeId) (he : Tryd.prog.underlying e = some (.int .i64)) (hg : o.guard = none) (it : Operand) (hop : o.op = Op.next it false) (b r n : Nat) (D : DataW Unit) (left : Lit → Bool) (cnt : Nat)
    (hit : a.eval it = .pointer (some ⟨r, 0, none⟩)) (h : w.ranges Tryd.prog 9 (plainElem (H := Unit) Tryd.prog e) b r n D left cnt)
    (hDone : cnt = 0 → (∀ kl, left kl = false) → wpList Tryd.prog ops Q rest (a.put o.dst (.tuple #[.bool false])) w)
    (hMore : ∀ (x : ByteArray) (c : Int) (w' : World) (cnt' : Nat), x.size ≤ maxLen → (Lit.int .i64 c).wf = true → left (.string x.data.toList) = true → (∀ zd, D.atKey (.string x.data.toList) zd = .lit (.int .i64 c)) → w'.ranges Tryd.prog 9 (plainElem (H := Unit) Tryd.prog e) b r n D (fun z => left z && !z.sameKey (.string x.data.toList)) cnt' → cnt' < cnt →
      w.grownBy w' (some r) → w'.heap.size = w.heap.size → (Instr.entry (.pointer (some ⟨r, 0, none⟩))).run Tryd.prog w' = .ok (.tuple #[.string x, .int .i64 c]) w' → wpList Tryd.prog ops Q rest (a.put o.dst (.tuple #[.bool true, .string x, .int .i64 c])) w') :
    wpList Tryd.prog ops Q (o :: rest) a w :=
  wpList_next_ranges w hg it hop 9 lawS (plainElem Tryd.prog e) Value.string (Value.int .i64) (fun key kl hkey => keyS_ex hkey) (fun v y hv => by obtain ⟨c, rfl, _⟩ := plainElem_int_inv he hv; exact ⟨c, rfl⟩)
    b r n D left cnt hit h hDone (fun x c kl y w' cnt' hkey hlk hv hat hrg hlt hgr hsz hen => by
      obtain ⟨rfl, hxs⟩ := keyS_inv hkey
      obtain ⟨c', ec, rfl, hwc⟩ := plainElem_int_inv he hv
      cases ec
      exact hMore x c w' cnt' hxs hwc hlk hat hrg hlt hgr hsz hen)

/-- A step over a flat object's fields. -/
theorem next_sf (hg : o.guard = none) (it : Operand) (hop : o.op = Op.next it false) (b r n : Nat) (D : DataW Unit) (left : Lit → Bool) (cnt : Nat)
    (hit : a.eval it = .pointer (some ⟨r, 0, none⟩)) (h : w.ranges Tryd.prog 9 fv b r n D left cnt)
    (hDone : cnt = 0 → (∀ kl, left kl = false) → wpList Tryd.prog ops Q rest (a.put o.dst (.tuple #[.bool false])) w)
    (hMore : ∀ (x : ByteArray) (c : Int) (w' : World) (cnt' : Nat), x.size ≤ maxLen → (Lit.int .i64 c).wf = true → left (.string x.data.toList) = true → (∀ zd, D.atKey (.string x.data.toList) zd = .lit (.int .i64 c)) → w'.ranges Tryd.prog 9 fv b r n D (fun z => left z && !z.sameKey (.string x.data.toList)) cnt' → cnt' < cnt →
      w.grownBy w' (some r) → w'.heap.size = w.heap.size → (Instr.entry (.pointer (some ⟨r, 0, none⟩))).run Tryd.prog w' = .ok (.tuple #[.string x, .agg #[.nilIface, .int .i64 c]]) w' → wpList Tryd.prog ops Q rest (a.put o.dst (.tuple #[.bool true, .string x, .agg #[.nilIface, .int .i64 c]])) w') :
    wpList Tryd.prog ops Q (o :: rest) a w :=
  wpList_next_ranges w hg it hop 9 lawS fv Value.string (fun c : Int => .agg #[.nilIface, .int .i64 c]) (fun key kl hkey => keyS_ex hkey) (fun v y hv => by obtain ⟨c, rfl, _⟩ := fv_inv hv; exact ⟨c, rfl⟩)
    b r n D left cnt hit h hDone (fun x c kl y w' cnt' hkey hlk hv hat hrg hlt hgr hsz hen => by
      obtain ⟨rfl, hxs⟩ := keyS_inv hkey
      obtain ⟨c', ec, hwc, rfl⟩ := fv_inv hv
      have e2 : c = c' := by simpa using ec
      subst e2
      exact hMore x c w' cnt' hxs hwc hlk hat hrg hlt hgr hsz hen)
end
end Go.Proofs.YtbdadgkjiondgaaDoor.see
