/-
  FnLinesStripped: lines of code points and lines of bytes.
-/
import Derived.Test.YthdlekfnmabldaaDoorStripLines
import Derived.Test.YthdlekfnmabldaaDoorStripFine
namespace Go.Proofs.YthdlekfnmabldaaDoor.fnLinesStripped
open Go
set_option linter.unusedSimpArgs false
set_option linter.unusedVariables false
set_option maxRecDepth 100000

/-- The lines of code points, the first of which has begun. -/
def splitN : List Nat → List Nat → List (List Nat)
  | cur, [] => [cur]
  | cur, r :: L => if r = 10 then cur :: splitN [] L else splitN (cur ++ [r]) L

theorem split_past (bs : List UInt8) : ∀ (cur rest : List UInt8), (∀ b ∈ bs, b ≠ 10) → split cur (bs ++ rest) = split (cur ++ bs) rest := by
  induction bs with
  | nil => intro cur rest _; simp
  | cons b bs ih =>
    intro cur rest h
    show (if b = 10 then _ else split (cur ++ [b]) (bs ++ rest)) = _
    rw [if_neg (h b (by simp)), ih _ _ (fun x hx => h x (by simp [hx])), List.append_assoc]
    rfl

theorem enc_ten : enc 10 = [10] := by
  rcases fine_all 10 with ⟨-, h⟩ | ⟨h, -⟩
  · rw [h]; rfl
  · omega

theorem enc_not {r : Nat} (hr : r ≠ 10) : ∀ b ∈ enc r, b ≠ 10 := by
  intro b hb he
  subst he
  rcases fine_all r with ⟨h1, h2⟩ | ⟨h1, h2, h3⟩
  · rw [h2] at hb
    simp only [List.mem_cons, List.not_mem_nil, or_false] at hb
    have h4 : (UInt8.ofNat r).toNat = r := by simp; omega
    rw [← hb] at h4
    exact hr h4.symm
  · have := h3 _ hb
    exact absurd this (by decide)

theorem split_enc : ∀ (L cur : List Nat), split (cur.flatMap enc) (L.flatMap enc) = (splitN cur L).map (fun x => x.flatMap enc)
  | [], cur => rfl
  | r :: L, cur => by
    rw [List.flatMap_cons]
    by_cases hr : r = 10
    · subst hr
      rw [enc_ten]
      show (if (10 : UInt8) = 10 then cur.flatMap enc :: split [] (L.flatMap enc) else _) = _
      rw [if_pos rfl]
      show _ = ((if 10 = 10 then cur :: splitN [] L else _).map _)
      rw [if_pos rfl, List.map_cons, ← split_enc L []]
      rfl
    · rw [split_past _ _ _ (enc_not hr)]
      show _ = ((if r = 10 then _ else splitN (cur ++ [r]) L).map _)
      rw [if_neg hr, ← split_enc L (cur ++ [r]), List.flatMap_append]
      simp
end Go.Proofs.YthdlekfnmabldaaDoor.fnLinesStripped
