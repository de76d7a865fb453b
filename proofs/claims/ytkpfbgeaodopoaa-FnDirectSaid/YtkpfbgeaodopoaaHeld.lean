/-
  A region that draws, walked by hand, operation by operation: the steps in forms that keep the frame written out.
  Generic: no program in sight.
-/
import Derived.Deep.RegionHeld3
import Derived.Test.YtkpfbgeaodopoaaRows
namespace Go.Proofs.Ytkpfbgeaodopoaa
open Go

section
variable {P : Program} {ops : Array Oper} {Q : Exit → Act → World → Prop} {md : Region.Mode} {S : World → Prop}

/-- The beginning, the number of operations written out. -/
theorem held_begin {id : Nat} {a : Act} {w : World} (n : Nat) (hn : ops.size = n) (hm : P.follows .mixedOrders = true) (hS : S w.drew)
    (h : S w.drew → wpAnyH P .any ops Q S n (Array.replicate n false) a w.drew) : (Code.region id ops true).wp P Q a w := by
  subst hn
  exact wp_region_held_drew hm hS h

theorem put_panic (hQ : ∀ c (a : Act) w t, Q (.panic c) { a with tmps := t } w → Q (.panic c) a w) (c a w d v) (h : Q (.panic c) (a.put d v) w) : Q (.panic c) a w := by
  cases d with
  | none => exact h
  | some d => exact hQ c a w _ h

/-- One operation that yields in every world that meets S, its slot written out. -/
theorem held_take (i : Nat) (d : Option Tmp) {oi : Oper} {v : Value} {fuel : Nat} {listed : Array Bool} {a : Act} {w : World} (hi : ops[i]? = some oi) (hd : oi.dst = d)
    (hs : Region.noSelect ops = true) (hf : Region.free md ops listed i = true) (hr : (Region.ready md ops listed).contains i = true)
    (hQ : ∀ c (a : Act) w t, Q (.panic c) { a with tmps := t } w → Q (.panic c) a w) (hw : Region.wanted oi (yielded ops a.tmps) = true)
    (hy : ∀ w, S w → (execOp a.eval oi).run P w = .ok (.value v) w) (hS : S w)
    (h : wpAnyH P md ops Q S fuel (listed.setIfInBounds i true) (a.put d v) w) : wpAnyH P md ops Q S (fuel + 1) listed a w := by
  subst hd
  exact wpAnyH_take hi hs hf hr (fun c a w => put_panic hQ c a w _ _) (.inl ⟨hw, hy⟩) hS h

/-- May these be skipped, in this order? Each with its slot. -/
def skipOk (md : Region.Mode) (ops : Array Oper) : List (Nat × Option Tmp) → Array Bool → Act → Bool
  | [], _, _ => true
  | (i, d) :: L, listed, a => match ops[i]? with
    | some o => decide (o.dst = d) && Region.free md ops listed i && (Region.ready md ops listed).contains i && !(Region.wanted o (yielded ops a.tmps)) && skipOk md ops L (listed.setIfInBounds i true) (a.put d undef)
    | none => false

/-- Many operations that are not wanted. -/
theorem held_skips (hs : Region.noSelect ops = true) (hQ : ∀ c (a : Act) w t, Q (.panic c) { a with tmps := t } w → Q (.panic c) a w) :
    ∀ (L : List (Nat × Option Tmp)) {fuel : Nat} {listed : Array Bool} {a : Act} {w : World}, skipOk md ops L listed a = true → S w →
      wpAnyH P md ops Q S fuel (L.foldl (fun l p => l.setIfInBounds p.1 true) listed) (L.foldl (fun a p => a.put p.2 undef) a) w →
      wpAnyH P md ops Q S (fuel + L.length) listed a w
  | [], _, _, _, _, _, _, h => h
  | (i, d) :: L, fuel, listed, a, w, hok, hS, h => by
    unfold skipOk at hok
    split at hok
    · rename_i o ho
      simp only [Bool.and_eq_true, decide_eq_true_eq, Bool.not_eq_true'] at hok
      obtain ⟨⟨⟨⟨hd, hf⟩, hr⟩, hw⟩, hrest⟩ := hok
      subst hd
      have := held_skips hs hQ L hrest hS h
      exact wpAnyH_take (fuel := fuel + L.length) ho hs hf hr (fun c a w => put_panic hQ c a w _ _) (.inr ⟨hw, rfl⟩) hS this
    · cases hok
end
end Go.Proofs.Ytkpfbgeaodopoaa
