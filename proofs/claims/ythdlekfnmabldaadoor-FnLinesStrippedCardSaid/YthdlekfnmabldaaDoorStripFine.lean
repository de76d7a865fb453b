/-
  FnLinesStripped: every code point is fine: one byte below 128 that is itself, or bytes from 128 on.
-/
import Derived.Test.YthdlekfnmabldaaDoorStripText
namespace Go.Proofs.YthdlekfnmabldaaDoor.fnLinesStripped
open Go
set_option linter.unusedSimpArgs false
set_option linter.unusedVariables false
set_option maxRecDepth 100000

theorem high (x : Nat) (h1 : 128 ≤ x) (h2 : x < 256) : 128 ≤ (UInt8.ofNat x).toNat := by
  have : (UInt8.ofNat x).toNat = x := by simp; omega
  omega

theorem fine_all (r : Nat) : Fine r := by
  by_cases h : r < 128
  · refine .inl ⟨h, ?_⟩
    unfold enc Utf8.encode
    rw [Go.Proofs.YthdlekfnmabldaaDoor.fnEncodeExact.valid_of (by omega)]
    simp only [if_true, Int.toNat_natCast]
    rw [if_pos (by omega)]
  · refine .inr ⟨by omega, ?_, ?_⟩
    · unfold enc Utf8.encode
      simp only
      repeat' split
      all_goals simp
    · intro b hb
      obtain ⟨c, hc, hc1, hc2⟩ : ∃ c, (if Utf8.valid (r : Int) = true then (r : Int).toNat else Utf8.runeError) = c ∧ 128 ≤ c ∧ c ≤ 1114111 := by
        refine ⟨_, rfl, ?_, ?_⟩
        · split
          · simp; omega
          · unfold Utf8.runeError; omega
        · split
          · rename_i hv
            unfold Utf8.valid at hv
            simp at hv
            simp
            omega
          · unfold Utf8.runeError; omega
      unfold enc Utf8.encode at hb
      simp only [hc] at hb
      rw [if_neg (by omega)] at hb
      split at hb
      · have hb2 : b ∈ [UInt8.ofNat (0xC0 + c / 64), UInt8.ofNat (0x80 + c % 64)] := hb
        simp only [List.mem_cons, List.not_mem_nil, or_false] at hb2
        rcases hb2 with rfl | rfl <;> exact high _ (by omega) (by omega)
      · split at hb
        · have hb2 : b ∈ [UInt8.ofNat (0xE0 + c / 4096), UInt8.ofNat (0x80 + c / 64 % 64), UInt8.ofNat (0x80 + c % 64)] := hb
          simp only [List.mem_cons, List.not_mem_nil, or_false] at hb2
          rcases hb2 with rfl | rfl | rfl <;> exact high _ (by omega) (by omega)
        · have hb2 : b ∈ [UInt8.ofNat (0xF0 + c / 262144), UInt8.ofNat (0x80 + c / 4096 % 64), UInt8.ofNat (0x80 + c / 64 % 64), UInt8.ofNat (0x80 + c % 64)] := hb
          simp only [List.mem_cons, List.not_mem_nil, or_false] at hb2
          rcases hb2 with rfl | rfl | rfl | rfl <;> exact high _ (by omega) (by omega)
end Go.Proofs.YthdlekfnmabldaaDoor.fnLinesStripped
