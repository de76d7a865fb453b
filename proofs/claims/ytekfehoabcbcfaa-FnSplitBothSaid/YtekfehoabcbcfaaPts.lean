/-
  Code points and their bytes: plain.
-/
import Derived.Test.YtekfehoabcbcfaaEncText
import Derived.Lib.QuoteLoop
import Derived.Lib.DecodeN
namespace Go.Proofs.Ytekfehoabcbcfaa.pts
open Go Go.Proofs.Ytekfehoabcbcfaa.fnEncodeExact
set_option linter.unusedSimpArgs false
set_option linter.unusedVariables false
set_option maxRecDepth 100000

/-- The bytes of code points. -/
def enc (r : Nat) : List UInt8 := (Utf8.encode (r : Int)).data.toList

/-- A code point whose bytes are as they should be: one byte below 128 that is itself, or no byte below 128. -/
def Fine (r : Nat) : Prop := (r < 128 ∧ enc r = [UInt8.ofNat r]) ∨ (128 ≤ r ∧ enc r ≠ [] ∧ ∀ b ∈ enc r, 128 ≤ b.toNat)

theorem high (x : Nat) (h1 : 128 ≤ x) (h2 : x < 256) : 128 ≤ (UInt8.ofNat x).toNat := by
  have : (UInt8.ofNat x).toNat = x := by simp; omega
  omega

theorem fine_all (r : Nat) : Fine r := by
  by_cases h : r < 128
  · refine .inl ⟨h, ?_⟩
    unfold enc Utf8.encode
    rw [Go.Proofs.Ytekfehoabcbcfaa.fnEncodeExact.valid_of (by omega)]
    simp only [if_true, Int.toNat_natCast]
    rw [if_pos (by omega)]
  · refine .inr ⟨by omega, ?_, ?_⟩
    · unfold enc Utf8.encode
      simp only
      repeat' split
      all_goals simp
    · intro b hb
      obtain ⟨c, hc, hc1, hc2⟩ : ∃ c, (if Utf8.valid (r : Int) = true then (r : Int).toNat else Utf8.runeError) = c ∧ 128 ≤ c ∧ c ≤ 1114111 := by
        refine ⟨_, rfl, ?_, ?_⟩
        · split
          · simp; omega
          · unfold Utf8.runeError; omega
        · split
          · rename_i hv
            unfold Utf8.valid at hv
            simp at hv
            simp
            omega
          · unfold Utf8.runeError; omega
      unfold enc Utf8.encode at hb
      simp only [hc] at hb
      rw [if_neg (by omega)] at hb
      split at hb
      · have hb2 : b ∈ [UInt8.ofNat (0xC0 + c / 64), UInt8.ofNat (0x80 + c % 64)] := hb
        simp only [List.mem_cons, List.not_mem_nil, or_false] at hb2
        rcases hb2 with rfl | rfl <;> exact high _ (by omega) (by omega)
      · split at hb
        · have hb2 : b ∈ [UInt8.ofNat (0xE0 + c / 4096), UInt8.ofNat (0x80 + c / 64 % 64), UInt8.ofNat (0x80 + c % 64)] := hb
          simp only [List.mem_cons, List.not_mem_nil, or_false] at hb2
          rcases hb2 with rfl | rfl | rfl <;> exact high _ (by omega) (by omega)
        · have hb2 : b ∈ [UInt8.ofNat (0xF0 + c / 262144), UInt8.ofNat (0x80 + c / 4096 % 64), UInt8.ofNat (0x80 + c / 64 % 64), UInt8.ofNat (0x80 + c % 64)] := hb
          simp only [List.mem_cons, List.not_mem_nil, or_false] at hb2
          rcases hb2 with rfl | rfl | rfl | rfl <;> exact high _ (by omega) (by omega)
set_option maxRecDepth 100000 in
theorem fold_bytes (M : List Nat) : ∀ (s : ByteArray), ((M.map Int.ofNat).foldl (fun r n => r ++ Utf8.encode n) s).data.toList = s.data.toList ++ M.flatMap enc := by
  induction M with
  | nil => intro s; simp
  | cons r M ih =>
    intro s
    have he : (Utf8.encode (Int.ofNat r)).data.toList = enc r := by unfold enc; rw [Int.ofNat_eq_natCast]
    rw [List.map_cons, List.foldl_cons, ih, ByteArray.data_append, Array.toList_append, List.append_assoc, List.flatMap_cons, he]

theorem bytes_of (M : List Nat) : runesBytes (M.map Int.ofNat) = ⟨(M.flatMap enc).toArray⟩ := by
  apply ByteArray.ext
  apply Array.toList_inj.1
  show ((M.map Int.ofNat).foldl (fun r n => r ++ Utf8.encode n) ByteArray.empty).data.toList = M.flatMap enc
  rw [fold_bytes]
  rfl

def Val (r : Nat) : Prop := r < 55296 ∨ 57344 ≤ r ∧ r ≤ 1114111

theorem piece_val {s : ByteArray} {i r n : Nat} (hp : Piece s i r n) : Val r := by
  have h := Lib.decode_at s i
  rw [hp.dec] at h
  have h2 := Lib.decodeN_valid (s.size - i) (s.get! i).toNat (s.get! (i + 1)).toNat (s.get! (i + 2)).toNat (s.get! (i + 3)).toNat (UInt8.toNat_lt _)
  rw [← h] at h2
  unfold Val
  simp only at h2
  omega

theorem get_drop {s : ByteArray} {i : Nat} {b : UInt8} {t : List UInt8} (h : s.data.toList.drop i = b :: t) : i < s.size ∧ s.get! i = b ∧ s.data.toList.drop (i + 1) = t := by
  have hi : i < s.size := by
    have h2 := congrArg List.length h
    rw [List.length_drop] at h2
    simp at h2
    have h3 : s.size = s.data.size := rfl
    omega
  have h4 := drop_byte hi
  rw [h] at h4
  exact ⟨hi, (List.cons.inj h4).1.symm, (List.cons.inj h4).2.symm⟩

theorem of_byte {x : Nat} (h : x < 256) : (UInt8.ofNat x).toNat = x := by simp; omega

theorem enc_two {r : Nat} (h1 : 128 ≤ r) (h2 : r < 2048) : enc r = [UInt8.ofNat (0xC0 + r / 64), UInt8.ofNat (0x80 + r % 64)] := by
  unfold enc Utf8.encode
  rw [valid_of (by omega)]
  simp only [if_true, Int.toNat_natCast]
  rw [if_neg (by omega), if_pos (by omega)]

theorem enc_three {r : Nat} (hv : Val r) (h1 : 2048 ≤ r) (h2 : r < 65536) : enc r = [UInt8.ofNat (0xE0 + r / 4096), UInt8.ofNat (0x80 + r / 64 % 64), UInt8.ofNat (0x80 + r % 64)] := by
  unfold Val at hv
  unfold enc Utf8.encode
  rw [valid_of (by omega)]
  simp only [if_true, Int.toNat_natCast]
  rw [if_neg (by omega), if_neg (by omega), if_pos (by omega)]

theorem enc_four {r : Nat} (hv : Val r) (h1 : 65536 ≤ r) : enc r = [UInt8.ofNat (0xF0 + r / 262144), UInt8.ofNat (0x80 + r / 4096 % 64), UInt8.ofNat (0x80 + r / 64 % 64), UInt8.ofNat (0x80 + r % 64)] := by
  unfold Val at hv
  unfold enc Utf8.encode
  rw [valid_of (by omega)]
  simp only [if_true, Int.toNat_natCast]
  rw [if_neg (by omega), if_neg (by omega), if_neg (by omega)]

theorem enc_one {r : Nat} (h : r < 128) : enc r = [UInt8.ofNat r] := by
  rcases fine_all r with ⟨-, h2⟩ | ⟨h2, -⟩
  · exact h2
  · omega

theorem piece_at {s : ByteArray} {i r : Nat} (hv : Val r) (t : List UInt8) (h : s.data.toList.drop i = enc r ++ t) : Piece s i r (enc r).length := by
  have hv' := hv
  unfold Val at hv'
  by_cases h1 : r < 128
  · rw [enc_one h1] at h ⊢
    obtain ⟨a1, a2, -⟩ := get_drop h
    exact piece1 a1 (by rw [a2, of_byte (by omega)]) h1
  by_cases h2 : r < 2048
  · rw [enc_two (by omega) h2] at h ⊢
    obtain ⟨a1, a2, a3⟩ := get_drop h
    obtain ⟨b1, b2, -⟩ := get_drop a3
    exact piece2 b1 (by rw [a2, of_byte (by omega)]) (by rw [b2, of_byte (by omega)]) (by omega) (by omega) (by omega) (by omega) (by omega) (by omega)
  by_cases h3 : r < 65536
  · rw [enc_three hv (by omega) h3] at h ⊢
    obtain ⟨a1, a2, a3⟩ := get_drop h
    obtain ⟨b1, b2, b3⟩ := get_drop a3
    obtain ⟨c1, c2, -⟩ := get_drop b3
    exact piece3 c1 (by rw [a2, of_byte (by omega)]) (by rw [b2, of_byte (by omega)]) (by rw [show i + 2 = i + 1 + 1 from rfl, c2, of_byte (by omega)]) (by omega) (by omega) (by omega) (by omega) (by omega) (by omega) (by omega) (by omega) (by omega)
  · rw [enc_four hv (by omega)] at h ⊢
    obtain ⟨a1, a2, a3⟩ := get_drop h
    obtain ⟨b1, b2, b3⟩ := get_drop a3
    obtain ⟨c1, c2, c3⟩ := get_drop b3
    obtain ⟨d1, d2, -⟩ := get_drop c3
    exact piece4 d1 (by rw [a2, of_byte (by omega)]) (by rw [b2, of_byte (by omega)]) (by rw [show i + 2 = i + 1 + 1 from rfl, c2, of_byte (by omega)]) (by rw [show i + 3 = i + 1 + 1 + 1 from rfl, d2, of_byte (by omega)]) (by omega) (by omega) (by omega) (by omega) (by omega) (by omega) (by omega) (by omega) (by omega) (by omega) (by omega)

theorem upto_part {s : ByteArray} : ∀ (R : List Nat) (t : List UInt8), (∀ r ∈ R, Val r) → s.data.toList = R.reverse.flatMap enc ++ t → Upto s (R.reverse.flatMap enc).length R.reverse
  | [], t, _, _ => .zero
  | r :: R, t, hv, h => by
    rw [List.reverse_cons, List.flatMap_append, List.append_assoc] at h
    have ih := upto_part R _ (fun x hx => hv x (by simp [hx])) h
    have hp : Piece s (R.reverse.flatMap enc).length r (enc r).length := piece_at (hv r (by simp)) t (by
      rw [h, List.drop_left]
      simp)
    have h2 := ih.step hp
    rw [List.reverse_cons, List.flatMap_append, List.length_append]
    simpa using h2

/-- A list of such code points is what its text reads as. -/
theorem upto_made (M : List Nat) (hv : ∀ r ∈ M, Val r) : Upto ⟨(M.flatMap enc).toArray⟩ (ByteArray.mk (M.flatMap enc).toArray).size M := by
  have h := upto_part (s := ⟨(M.flatMap enc).toArray⟩) M.reverse [] (fun r hr => hv r (by simpa using hr)) (by simp)
  rw [List.reverse_reverse] at h
  have h2 : (ByteArray.mk (M.flatMap enc).toArray).size = (M.flatMap enc).length := by
    show (M.flatMap enc).toArray.size = _
    simp
  rw [h2]
  exact h

theorem upto_val {s : ByteArray} {i : Nat} {L : List Nat} (h : Upto s i L) : ∀ r ∈ L, Val r := by
  induction h with
  | zero => intro r hr; cases hr
  | step _ hp ih =>
    intro r hr
    rcases List.mem_append.1 hr with h1 | h1
    · exact ih r h1
    · obtain rfl : r = _ := by simpa using h1
      exact piece_val hp

theorem enc_pos (r : Nat) : 1 ≤ (enc r).length := by
  rcases fine_all r with ⟨-, h⟩ | ⟨-, h, -⟩
  · rw [h]; simp
  · cases he : enc r with
    | nil => exact absurd he h
    | cons _ _ => simp

/-- What stands behind a place is made of pieces, too. -/
theorem upto_rest {s : ByteArray} {L : List Nat} (h : Upto s s.size L) : s.data.toList = L.flatMap enc := by
  have h1 := (whole h).2
  have h2 := upto_bytes h
  rw [List.take_of_length_le (by simp)] at h2
  rw [← h2]
  have h3 := bytes_of L
  rw [h3]

/-- The next piece. -/
theorem next_piece {s : ByteArray} {L1 L2 : List Nat} {r : Nat} (h : Upto s s.size (L1 ++ r :: L2)) : Piece s (L1.flatMap enc).length r (enc r).length := by
  refine piece_at (upto_val h r (by simp)) (L2.flatMap enc) ?_
  rw [upto_rest h, List.flatMap_append, List.drop_left, List.flatMap_cons]

theorem rest_none {s : ByteArray} {L1 : List Nat} (h : Upto s s.size (L1 ++ [])) : (L1.flatMap enc).length = s.size := by
  have h1 := congrArg List.length (upto_rest h)
  rw [List.append_nil] at h1
  rw [← h1]
  simp

theorem rest_lt {s : ByteArray} {L1 L2 : List Nat} {r : Nat} (h : Upto s s.size (L1 ++ r :: L2)) : (L1.flatMap enc).length < s.size := by
  have := (next_piece h).fits
  have := enc_pos r
  omega
end Go.Proofs.Ytekfehoabcbcfaa.pts
