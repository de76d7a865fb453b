/-
  FnFodderIndents: the law's own tests: plain comments; the comparison of two lists.
-/
import Derived.Test.YthdlekfnmabldaaFodderImpl
namespace Go.Proofs.Ythdlekfnmabldaa
open Go.RowKit
set_option linter.unusedSimpArgs false

theorem feeds_any (s : ByteArray) (w : World) (hs : s.size ≤ maxLen) :
    Calls Try.prog 22 #[.string s] w fun e w' => (∃ n, e = .returned (.int .i64 n)) ∧ w' = w := by
  have hs' : (s.size : Int) ≤ 9223372036854775807 := by unfold maxLen at hs; omega
  clear hs
  go_enter Try.func22, Try.ntmps22
  go_wp2
  go_loop [3, 4] (fun v i => ∃ (k : Nat) (m : Int), k ≤ s.size ∧ v = .int .i64 m ∧ i = .int .i64 k) (fun _ i => s.size - (intOf i).toNat)
  case atStart => exact ⟨0, 0, Nat.zero_le _, rfl, rfl⟩
  case round =>
    obtain ⟨k, m, hk, rfl, rfl⟩ := hrel
    by_cases hlt : k < s.size
    · go_wp2
      all_goals
        go_round
        case rel => exact ⟨k + 1, _, by omega, rfl, by go_num⟩
        case measure => simp [intOf]; omega
    · go_wp2
      go_ret
      exact ⟨⟨_, rfl⟩, rfl⟩

theorem plain_any (c : Option Addr) (len cap : Nat) (E : Nat → El) (w : World) (h : ElsIn w c len cap E) (hz : ∀ i, i < len → ∀ j, j < (E i).cl → ((E i).S j).size ≤ maxLen) :
    Calls Try.prog 9 #[.slice c len cap] w fun e w' => IsB (fun r => r = true → len ≤ 100 ∧ ∀ i, i < len → ElOk (E i).kind (E i).cl) e ∧ Below w.heap.size w w' := by
  have H := Lib.hid h
  have HZ := Lib.hid hz
  clear h hz
  go_enter Try.func9, Try.ntmps9
  go_wp2
  go_loop [3] (fun i => ∃ k : Nat, k ≤ len ∧ i = .int .i64 k) (fun i => len - (intOf i).toNat)
  case atStart => exact ⟨0, Nat.zero_le _, rfl⟩
  case round =>
    obtain ⟨k, hk, rfl⟩ := hrel
    by_cases hlt : k < len
    · rcases H.out with ⟨-, h0, -⟩ | ⟨a, rfl, h1, h2, h3⟩
      · omega
      have hlm : (len : Int) ≤ 9223372036854775807 := by unfold maxLen at h2; omega
      obtain ⟨c0, c1, c2, c3, hs⟩ := h3 k hlt
      clear h3
      generalize hE : E k = e at *
      obtain ⟨kind, blanks, indent, ca, cl, cc, S⟩ := e
      simp only at c0 c1 c2 c3
      have HE := Lib.hid hE
      have HS := Lib.hid hs
      clear hs hE
      go_wp2
      go_loop [4] (fun i => ∃ j : Nat, j ≤ cl ∧ i = .int .i64 j) (fun i => cl - (intOf i).toNat)
      case atStart => exact ⟨0, Nat.zero_le _, rfl⟩
      case round =>
        obtain ⟨j, hj, rfl⟩ := hrel
        by_cases hjt : j < cl
        · rcases HS.out with ⟨-, h0, -⟩ | ⟨a', rfl, h4, h5, h6⟩
          · omega
          have hcm : (cl : Int) ≤ 9223372036854775807 := by unfold maxLen at h5; omega
          obtain ⟨hb, hcell⟩ := h6 j hjt
          clear h6
          have hzj : (S j).size ≤ maxLen := by have := HZ.out k hlt j (by rw [HE.out]; exact hjt); rw [HE.out] at this; exact this
          have HSZ := Lib.hid hzj
          clear hzj
          go_wp2_with (go_at_call 22; refine (feeds_any _ _ HSZ.out).mono ?_; rintro e w1 ⟨⟨n, rfl⟩, rfl⟩)
          all_goals first
            | (go_ret; exact ⟨⟨_, rfl, by simp⟩, by go_grown⟩)
            | (go_round
               case rel => exact ⟨j + 1, by omega, by go_num⟩
               case measure => simp [intOf]; omega)
        · go_wp2
          go_round
          case rel => exact ⟨k + 1, by omega, by go_num⟩
          case measure => simp [intOf]; omega
    · go_wp2_with fail
      refine (fodder_any c len cap E _ H.out).mono ?_
      rintro e w1 ⟨⟨r, rfl, hr⟩, hb⟩
      have HR := Lib.hid hr
      clear hr
      go_wp2
      go_ret
      exact ⟨⟨r, rfl, HR.out⟩, hb⟩
end Go.Proofs.Ythdlekfnmabldaa
