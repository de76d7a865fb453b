/-
  FnFodderIndents: the thin package's function.
-/
import Derived.Test.YthdlekfnmabldaaIndSet
namespace Go.Proofs.Ythdlekfnmabldaa.fnFodderIndents
open Go.RowKit
set_option linter.unusedSimpArgs false

theorem strs_length (S : Nat → ByteArray) (n : Nat) : (strs S n).length = n := by simp [strs]

theorem strs_at {S : Nat → ByteArray} {n i : Nat} (h : i < n) : (strs S n)[i]? = some (.string (S i)) := by
  unfold strs
  rw [List.getElem?_map, List.getElem?_range h]
  rfl

theorem strsIn_of_owns {w : World} {B : Nat} {c : Option Addr} {n cap : Nat} {S : Nat → ByteArray} (h : w.ownsRow B 9 1 (.slice c n cap) n (strs S n)) : StrsIn w c n cap S := by
  rcases own_form h with ⟨h1, rfl⟩ | ⟨g, cap', h1, h2, h3, h4, h5⟩
  · simp at h1
    exact .inl ⟨h1.1, rfl, h1.2⟩
  · simp at h1
    obtain ⟨rfl, rfl⟩ := h1
    refine .inr ⟨_, rfl, h4, h5, fun i hi => ⟨h3, ?_⟩⟩
    have hc := (h.cellAt i (by omega)).trans (strs_at hi)
    have ha : (⟨g, 0, none⟩ : Addr).add i = ⟨g, i, none⟩ := by unfold Addr.add; split <;> simp_all
    rw [ha]
    exact hc

def caOf : Value → Option Addr
  | .slice a _ _ => a
  | _ => none
def ccOf : Value → Nat
  | .slice _ _ c => c
  | _ => 0

/-- The element, its comment lying elsewhere. -/
def moved (C : Nat → Value) (E : Nat → El) : Nat → El := fun j => { E j with ca := caOf (C j), cc := ccOf (C j) }

theorem moved_same (C : Nat → Value) (E : Nat → El) (j : Nat) : SameEl (E j) (moved C E j) := ⟨rfl, rfl, rfl, rfl, rfl⟩

theorem same_trans {a b c : El} (h : SameEl a b) (k : SameEl b c) : SameEl a c :=
  ⟨h.1.trans k.1, h.2.1.trans k.2.1, h.2.2.1.trans k.2.2.1, h.2.2.2.1.trans k.2.2.2.1, h.2.2.2.2.trans k.2.2.2.2⟩
theorem same_symm {a b : El} (h : SameEl a b) : SameEl b a := ⟨h.1.symm, h.2.1.symm, h.2.2.1.symm, h.2.2.2.1.symm, h.2.2.2.2.symm⟩

theorem add_head (g i : Nat) : (⟨g, 0, none⟩ : Addr).add i = ⟨g, i, none⟩ := by unfold Addr.add; split <;> simp_all

theorem madeC_in {C : Nat → Value} {w : World} {B len : Nat} {v : Value} {E : Nat → El} (h : MadeC C w B v len E) : ∃ c cap, v = .slice c len cap ∧ FElsIn w c len cap (moved C E) := by
  rcases own_form h.1 with ⟨rfl, rfl⟩ | ⟨g, cap, rfl, h2, h3, h4, h5⟩
  · exact ⟨_, _, rfl, .inl ⟨rfl, rfl, rfl⟩⟩
  · refine ⟨_, _, rfl, .inr ⟨_, rfl, h4, h5, fun i hi => ?_⟩⟩
    obtain ⟨c0, c1, c2, c3, -⟩ := h.cells i hi
    obtain ⟨ao, cp, hC⟩ := owns_slice (h.2 i hi)
    have hs := h.2 i hi
    rw [hC] at hs c0
    rw [add_head]
    refine ⟨?_, c1, c2, c3, ?_⟩
    · rw [c0]; simp [moved, hC, caOf, ccOf]
    · have := strsIn_of_owns hs
      simpa [moved, hC, caOf, ccOf] using this

theorem GE_length (C : Nat → Value) (E : Nat → El) (k : Nat) : (GE C E k).length = k * 4 := by
  induction k with
  | zero => rfl
  | succ k ih =>
    unfold GE at *
    rw [List.range_succ, List.flatMap_append, List.length_append, ih]
    simp
    omega

theorem GE_get (C : Nat → Value) (E : Nat → El) : ∀ (k j i : Nat), j < k → i < 4 → (GE C E k)[j * 4 + i]? = [.int .i64 (E j).kind, .int .i64 (E j).blanks, .int .i64 (E j).indent, C j][i]?
  | 0, j, i, h, _ => absurd h (by omega)
  | k + 1, j, i, h, hi => by
    have hl := GE_length C E k
    have hs : GE C E (k + 1) = GE C E k ++ [.int .i64 (E k).kind, .int .i64 (E k).blanks, .int .i64 (E k).indent, C k] := by
      unfold GE
      rw [List.range_succ, List.flatMap_append]
      simp
    rw [hs]
    by_cases hj : j < k
    · rw [List.getElem?_append_left (by omega)]
      exact GE_get C E k j i hj hi
    · obtain rfl : j = k := by omega
      rw [List.getElem?_append_right (by omega)]
      congr 1
      omega

theorem madeG_in {w : World} {B len : Nat} {v : Value} {E : Nat → El} (h : MadeG w B v len E) : ∃ c cap E', v = .slice c len cap ∧ ElsIn w c len cap E' ∧ ∀ j, j < len → SameEl (E j) (E' j) := by
  obtain ⟨C, h1, h2⟩ := h
  rcases own_form h1 with ⟨rfl, rfl⟩ | ⟨g, cap, rfl, h3, h4, h5, h6⟩
  · exact ⟨_, _, E, rfl, .inl ⟨rfl, rfl, rfl⟩, fun j hj => absurd hj (by omega)⟩
  · refine ⟨_, _, moved C E, rfl, .inr ⟨_, rfl, h5, h6, fun i hi => ?_⟩, fun j _ => moved_same C E j⟩
    have hc := fun q (hq : q < 4) => (h1.cellAt (i * 4 + q) (by omega)).trans (GE_get C E len i q hi hq)
    obtain ⟨ao, cp, hC⟩ := owns_slice (h2 i hi)
    have hs := h2 i hi
    have c3 := hc 3 (by omega)
    rw [hC] at hs
    rw [add_head]
    refine ⟨hc 0 (by omega), hc 1 (by omega), hc 2 (by omega), ?_, ?_⟩
    · refine c3.trans ?_
      simp [moved, hC, caOf, ccOf]
    · have := strsIn_of_owns hs
      simpa [moved, hC, caOf, ccOf] using this

theorem formIndents_any {C : Nat → Value} {B len : Nat} {v : Value} {E : Nat → El} (w : World) (hB : B ≤ w.heap.size) (hm : MadeC C w B v len E) (hlen : len ≤ 100) (others last : Int) :
    Calls Try.prog 23 #[v, .int .i64 others, .int .i64 last] w fun e w' => e = .returned (.tuple #[]) ∧ MadeC C w' B v len (setTo E len others last len) ∧ Below B w w' := by
  have HM := Lib.hid hm
  clear hm
  go_enter Try.func23, Try.ntmps23
  go_wp2_with fail
  refine (setIndents_any _ ?_ (HM.out.alloc _) hlen _ _ _).mono ?_
  · simp; omega
  rintro e w1 ⟨rfl, hm1, hb1⟩
  have HM1 := Lib.hid hm1
  clear hm1
  go_wp2
  go_returns
  exact ⟨rfl, HM1.out, (Below.alloc (Below.refl _ _) hB _).trans hb1⟩

theorem implIndents_any (c : Option Addr) (len cap : Nat) (E : Nat → El) (w : World) (h : ElsIn w c len cap E) (hlen : len ≤ 100) (hok : ∀ i, i < len → ElOk (E i).kind (E i).cl) (others last : Int) :
    Calls Try.prog 10 #[.slice c len cap, .int .i64 others, .int .i64 last] w fun e w' => ∃ c' cap' E', e = .returned (.tuple #[.slice c' len cap', .bool true]) ∧ ElsIn w' c' len cap' E' ∧ (∀ j, j < len → SameEl (setTo E len others last len j) (E' j)) ∧ Below w.heap.size w w' := by
  have H := Lib.hid h
  have HO := Lib.hid hok
  clear h hok
  go_enter Try.func10, Try.ntmps10
  go_wp2_with (go_at_call 20; refine (implFodder_any c len cap E _ H.out hlen HO.out).mono ?_; rintro e w1 ⟨v, rfl, ⟨C, hC⟩, hb⟩)
  have HC := Lib.hid hC
  have hsz := hb.size
  clear hC
  refine (formIndents_any w1 hsz HC.out hlen others last).mono ?_
  rintro e w2 ⟨rfl, hm2, hb2⟩
  have hB2 : Below w.heap.size w w2 := hb.trans hb2
  obtain ⟨c', cap', rfl, hF⟩ := madeC_in hm2
  have HF := Lib.hid hF
  clear hF hm2 HC hb hb2
  have hcl : ∀ i, i < len → (moved C (setTo E len others last len) i).cl ≤ 20 := fun i hi => by
    have := (HO.out i hi).2.2
    unfold moved setTo
    rw [if_pos hi]
    exact this
  go_wp2_with fail
  refine (elements_any c' len cap' _ w2 HF.out hlen hcl).mono ?_
  rintro e w3 ⟨v, rfl, hG, hb3⟩
  obtain ⟨c2, cap2, E', rfl, hE, hsame⟩ := madeG_in hG
  have HE := Lib.hid hE
  have HSM : Hid (∀ j, j < len → SameEl (setTo E len others last len j) (E' j)) := Lib.hid (fun j hj => same_trans (moved_same C _ j) (hsame j hj))
  have hB3 := below_step (Nat.le_refl _) hB2 hb3
  clear hE hsame hG hcl hB2 hb3 HF
  go_wp2
  go_ret2
  exact ⟨_, _, _, rfl, HE.out, HSM.out, hB3⟩
end Go.Proofs.Ythdlekfnmabldaa.fnFodderIndents
