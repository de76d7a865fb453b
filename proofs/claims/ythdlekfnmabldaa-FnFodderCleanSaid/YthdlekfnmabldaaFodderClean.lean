/-
  The walk of FnFodderClean.
-/
import Derived.Test.YthdlekfnmabldaaFodderOpen
namespace Go.Proofs.Ythdlekfnmabldaa.fnFodderClean
open Go.RowKit
set_option linter.unusedSimpArgs false

theorem FE_length (C : Nat → Value) (E : Nat → El) (k : Nat) : (FE C E k).length = k * 4 := by
  induction k with
  | zero => rfl
  | succ k ih =>
    unfold FE at *
    rw [List.range_succ, List.flatMap_append, List.length_append, ih]
    simp
    omega

theorem FE_get (C : Nat → Value) (E : Nat → El) : ∀ (k j i : Nat), j < k → i < 4 → (FE C E k)[j * 4 + i]? = [C j, .int .i64 (E j).kind, .int .i64 (E j).blanks, .int .i64 (E j).indent][i]?
  | 0, j, i, h, _ => absurd h (by omega)
  | k + 1, j, i, h, hi => by
    have hl := FE_length C E k
    have hs : FE C E (k + 1) = FE C E k ++ [C k, .int .i64 (E k).kind, .int .i64 (E k).blanks, .int .i64 (E k).indent] := by
      unfold FE
      rw [List.range_succ, List.flatMap_append]
      simp
    rw [hs]
    by_cases hj : j < k
    · rw [List.getElem?_append_left (by omega)]
      exact FE_get C E k j i hj hi
    · obtain rfl : j = k := by omega
      rw [List.getElem?_append_right (by omega)]
      congr 1
      omega

/-- A list of the package's elements that was made: where its cells lie. -/
theorem made_cells {w : World} {B k : Nat} {v : Value} {E : Nat → El} (h : Made w B v k E) (hk : 0 < k) : ∃ g cap, v = .slice (some ⟨g, 0, none⟩) k cap ∧ B ≤ g ∧ k ≤ cap ∧ cap ≤ maxLen ∧
    ∀ j, j < k → w.cell? ⟨g, j * 4 + 1, none⟩ = some (.int .i64 (E j).kind) := by
  obtain ⟨C, h1, h2⟩ := h
  rcases h1.2 with ⟨-, rfl⟩ | ⟨g, cap, cur, rfl, hb, hg, hn, hm, hs, ht⟩
  · omega
  · refine ⟨g, cap, rfl, hb, hn, hm, fun j hj => ?_⟩
    have := h1.cells (g := g) rfl (j * 4 + 1) (.int .i64 (E j).kind) (by rw [FE_get C E k j 1 hj (by omega)]; rfl)
    simpa [Addr.add] using this

theorem clean_any {B k : Nat} {v : Value} {E : Nat → El} (w : World) (h : Made w B v k E) (hk : 0 < k) (hk100 : k ≤ 100) :
    Calls Try.prog 21 #[v] w fun e w' => e = .returned (.bool (!decide ((E (k - 1)).kind = 1))) ∧ Below w.heap.size w w' := by
  obtain ⟨g, cap, rfl, -, hn, hm, hc⟩ := made_cells h hk
  have hcell := hc (k - 1) (by omega)
  have hkm : ((k : Int) - 1).toNat = k - 1 := by omega
  have hkb : (1 : Int) ≤ (k : Int) := by omega
  have hkw : IntKind.i64.wrap ((k : Int) - 1) = (k : Int) - 1 := by rw [IntWalk.i64_in] <;> omega
  have hadd : (⟨g, 0, none⟩ : Addr).add ((k - 1) * 4) = ⟨g, (k - 1) * 4, none⟩ := by unfold Addr.add; split <;> simp_all
  clear h hc
  go_enter Try.func21, Try.ntmps21
  go_wp2
  go_ret
  exact ⟨ret_bool (by by_cases hq : (E (k - 1)).kind = 1 <;> simp [hq, bne]), by go_grown⟩

theorem implClean_any (c : Option Addr) (len cap : Nat) (E : Nat → El) (w : World) (h : ElsIn w c len cap E) (h0 : 0 < len) (hlen : len ≤ 100) (hok : ∀ i, i < len → ElOk (E i).kind (E i).cl) :
    Calls Try.prog 8 #[.slice c len cap] w fun e w' => e = .returned (.tuple #[.bool (!decide ((E (len - 1)).kind = 1)), .bool true]) ∧ Below w.heap.size w w' := by
  have H := Lib.hid h
  have HO := Lib.hid hok
  clear h hok
  go_enter Try.func8, Try.ntmps8
  go_wp2_with (go_at_call 20; refine (implFodder_any c len cap E _ H.out hlen HO.out).mono ?_; rintro e w1 ⟨v, rfl, hm, hb⟩)
  refine (clean_any w1 hm h0 hlen).mono ?_
  rintro e w2 ⟨rfl, hb2⟩
  go_wp2
  go_ret2
  exact ⟨rfl, below_step (Nat.le_refl _) hb hb2⟩

theorem walk (a0 : Option Addr) (len0 cap0 : Nat) (E : Nat → El) (w : World) (w0 : ElsIn w a0 len0 cap0 E) :
    Calls Try.prog 3 #[.slice a0 len0 cap0] w fun e w' => e = .returned (.bool true) ∧ Below w.heap.size w w' := by
  have H := Lib.hid w0
  clear w0
  go_enter Try.func3, Try.ntmps3
  go_wp2_with fail
  refine (fits7_any a0 len0 cap0 E _ H.out).mono ?_
  rintro e w1 ⟨⟨r, rfl, -⟩, hb⟩
  cases r
  · go_wp2
    go_ret
    exact ⟨rfl, hb⟩
  have H1 := Lib.hid (H.out.below hb)
  go_wp2_with fail
  refine (fodder_any a0 len0 cap0 E _ H1.out).mono ?_
  rintro e w2 ⟨⟨r, rfl, hr⟩, hb1⟩
  have hb2 := below_step (Nat.le_refl _) hb hb1
  cases r
  · clear hr
    go_wp2
    go_ret
    exact ⟨rfl, hb2⟩
  obtain ⟨hl, hok⟩ := hr rfl
  have H2 := Lib.hid (H1.out.below hb1)
  have HO := Lib.hid hok
  clear hr hok
  by_cases h0 : len0 = 0
  · subst h0
    go_wp2
    go_ret
    exact ⟨rfl, hb2⟩
  have h0' : 0 < len0 := by omega
  go_wp2_with fail
  refine (implClean_any a0 len0 cap0 E _ H2.out h0' hl HO.out).mono ?_
  rintro e w3 ⟨rfl, hb3⟩
  have H3 := H2.out.below hb3
  rcases H3 with ⟨-, h4, -⟩ | ⟨a, rfl, h4, h5, h6⟩
  · omega
  obtain ⟨c0, -⟩ := h6 (len0 - 1) (by omega)
  have hkm : ((len0 : Int) - 1).toNat = len0 - 1 := by omega
  have hkb : (1 : Int) ≤ (len0 : Int) := by omega
  have hkw : IntKind.i64.wrap ((len0 : Int) - 1) = (len0 : Int) - 1 := by rw [IntWalk.i64_in] <;> omega
  clear h6
  go_wp2
  go_ret
  exact ⟨ret_bool (by by_cases hq : (E (len0 - 1)).kind = 1 <;> simp [hq, bne]), below_step (Nat.le_refl _) hb2 hb3⟩
end Go.Proofs.Ythdlekfnmabldaa.fnFodderClean
