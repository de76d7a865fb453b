/-
  FnEncodeExact: the plain law: a text that is made of well-formed pieces is what its code points encode to.
-/
import Derived.Laws.Cover4
import Derived.Laws.IdiomStrings
import Derived.Test.YtekfehoabcbcfaaRows
namespace Go.Proofs.Ytekfehoabcbcfaa.fnEncodeExact
open Go
set_option linter.unusedSimpArgs false
set_option linter.unusedVariables false
set_option maxRecDepth 100000

/-- At place i of s the code point r stands in n bytes. -/
structure Piece (s : ByteArray) (i r n : Nat) : Prop where
  dec : Utf8.decode s i = (r, n)
  pos : 1 ≤ n
  fits : i + n ≤ s.size
  enc : (Utf8.encode r).data.toList = (s.data.toList.drop i).take n

theorem drop_byte {s : ByteArray} {i : Nat} (h : i < s.size) : s.data.toList.drop i = (s.get! i) :: s.data.toList.drop (i + 1) := by
  have h' : i < s.data.toList.length := by simpa using h
  rw [List.drop_eq_getElem_cons h']
  congr 1
  show _ = s.data[i]!
  rw [getElem!_pos s.data i (by simpa using h)]
  simp

theorem byte_back (b : UInt8) (x : Nat) (h : x = b.toNat) : UInt8.ofNat x = b := by
  subst h
  simp

theorem valid_of {r : Nat} (h : r < 55296 ∨ 57344 ≤ r ∧ r ≤ 1114111) : Utf8.valid r = true := by
  unfold Utf8.valid
  simp
  omega

theorem piece1 {s : ByteArray} {i c : Nat} (h : i < s.size) (hc : (s.get! i).toNat = c) (h1 : c < 128) : Piece s i c 1 := by
  refine ⟨?_, Nat.le_refl _, h, ?_⟩
  · unfold Utf8.decode
    simp only [Nat.add_zero, hc]
    rw [if_pos (by omega)]
  · rw [drop_byte h]
    unfold Utf8.encode
    rw [valid_of (by omega)]
    simp only [if_true, Int.toNat_natCast]
    rw [if_pos (by omega)]
    simp only [List.take_succ_cons, List.take_zero]
    rw [byte_back _ _ hc.symm]

theorem piece2 {s : ByteArray} {i c d r : Nat} (h : i + 2 ≤ s.size) (hc : (s.get! i).toNat = c) (hd : (s.get! (i + 1)).toNat = d) (c1 : 192 ≤ c) (c2 : c < 224) (d1 : 128 ≤ d) (d2 : d < 192)
    (hr : r = (c - 192) * 64 + (d - 128)) (hr1 : 128 ≤ r) : Piece s i r 2 := by
  refine ⟨?_, by omega, h, ?_⟩
  · unfold Utf8.decode
    simp only [Nat.add_zero, hc, hd]
    have e1 : c / 32 = 6 := by omega
    have e2 : d / 64 = 2 := by omega
    have e3 : c % 32 = c - 192 := by omega
    have e4 : d % 64 = d - 128 := by omega
    have e5 : i + 1 < s.size := by omega
    rw [if_neg (by omega), e1, e2, e3, e4, ← hr, if_pos (by simp [e5]), if_pos hr1]
  · rw [drop_byte (show i < s.size by omega), drop_byte (show i + 1 < s.size by omega)]
    unfold Utf8.encode
    rw [valid_of (by omega)]
    simp only [if_true, Int.toNat_natCast]
    rw [if_neg (by omega), if_pos (by omega)]
    simp only [List.take_succ_cons, List.take_zero]
    rw [byte_back (s.get! i) _ (by omega), byte_back (s.get! (i + 1)) _ (by omega)]

theorem piece3 {s : ByteArray} {i c d e r : Nat} (h : i + 3 ≤ s.size) (hc : (s.get! i).toNat = c) (hd : (s.get! (i + 1)).toNat = d) (he : (s.get! (i + 2)).toNat = e) (c1 : 224 ≤ c) (c2 : c < 240) (d1 : 128 ≤ d) (d2 : d < 192) (f1 : 128 ≤ e) (f2 : e < 192)
    (hr : r = (c - 224) * 4096 + (d - 128) * 64 + (e - 128)) (hr1 : 2048 ≤ r) (hr2 : r < 55296 ∨ 57344 ≤ r) : Piece s i r 3 := by
  refine ⟨?_, by omega, h, ?_⟩
  · unfold Utf8.decode
    simp only [Nat.add_zero, hc, hd, he]
    have e1 : c / 16 = 14 := by omega
    have e2 : d / 64 = 2 := by omega
    have e3 : c % 16 = c - 224 := by omega
    have e4 : d % 64 = d - 128 := by omega
    have e5 : i + 1 < s.size := by omega
    have e6 : i + 2 < s.size := by omega
    have e7 : e / 64 = 2 := by omega
    have e8 : e % 64 = e - 128 := by omega
    have e9 : (c / 32 == 6) = false := by simp; omega
    rw [if_neg (by omega), e9, e1, e2, e3, e4, e7, e8, ← hr, if_neg (by simp), if_pos (by simp [e5, e6]), valid_of (by omega), if_pos (by simp; omega)]
  · rw [drop_byte (show i < s.size by omega), drop_byte (show i + 1 < s.size by omega), drop_byte (show i + 1 + 1 < s.size by omega)]
    unfold Utf8.encode
    rw [valid_of (by omega)]
    simp only [if_true, Int.toNat_natCast]
    rw [if_neg (by omega), if_neg (by omega), if_pos (by omega)]
    simp only [List.take_succ_cons, List.take_zero]
    rw [byte_back (s.get! i) _ (by omega), byte_back (s.get! (i + 1)) _ (by omega), byte_back (s.get! (i + 1 + 1)) _ (by rw [show i + 1 + 1 = i + 2 from rfl, he]; omega)]

theorem piece4 {s : ByteArray} {i c d e f r : Nat} (h : i + 4 ≤ s.size) (hc : (s.get! i).toNat = c) (hd : (s.get! (i + 1)).toNat = d) (he : (s.get! (i + 2)).toNat = e) (hf : (s.get! (i + 3)).toNat = f) (c1 : 240 ≤ c) (c2 : c < 248) (d1 : 128 ≤ d) (d2 : d < 192) (f1 : 128 ≤ e) (f2 : e < 192) (g1 : 128 ≤ f) (g2 : f < 192)
    (hr : r = (c - 240) * 262144 + (d - 128) * 4096 + (e - 128) * 64 + (f - 128)) (hr1 : 65536 ≤ r) (hr2 : r ≤ 1114111) : Piece s i r 4 := by
  refine ⟨?_, by omega, h, ?_⟩
  · unfold Utf8.decode
    simp only [Nat.add_zero, hc, hd, he, hf]
    have e1 : c / 8 = 30 := by omega
    have e2 : d / 64 = 2 := by omega
    have e3 : c % 8 = c - 240 := by omega
    have e4 : d % 64 = d - 128 := by omega
    have e5 : i + 1 < s.size := by omega
    have e6 : i + 2 < s.size := by omega
    have e6' : i + 3 < s.size := by omega
    have e7 : e / 64 = 2 := by omega
    have e8 : e % 64 = e - 128 := by omega
    have e7' : f / 64 = 2 := by omega
    have e8' : f % 64 = f - 128 := by omega
    have e9 : (c / 32 == 6) = false := by simp; omega
    have e10 : (c / 16 == 14) = false := by simp; omega
    rw [if_neg (by omega), e9, e10, e1, e2, e3, e4, e7, e8, e7', e8', ← hr, if_neg (by simp), if_neg (by simp), if_pos (by simp [e5, e6, e6']), valid_of (by omega), if_pos (by simp; omega)]
  · rw [drop_byte (show i < s.size by omega), drop_byte (show i + 1 < s.size by omega), drop_byte (show i + 1 + 1 < s.size by omega), drop_byte (show i + 1 + 1 + 1 < s.size by omega)]
    unfold Utf8.encode
    rw [valid_of (by omega)]
    simp only [if_true, Int.toNat_natCast]
    rw [if_neg (by omega), if_neg (by omega), if_neg (by omega)]
    simp only [List.take_succ_cons, List.take_zero]
    rw [byte_back (s.get! i) _ (by omega), byte_back (s.get! (i + 1)) _ (by omega), byte_back (s.get! (i + 1 + 1)) _ (by rw [show i + 1 + 1 = i + 2 from rfl, he]; omega), byte_back (s.get! (i + 1 + 1 + 1)) _ (by rw [show i + 1 + 1 + 1 = i + 3 from rfl, hf]; omega)]

/-- From the beginning to place i there are such pieces. -/
inductive Upto (s : ByteArray) : Nat → List Nat → Prop
  | zero : Upto s 0 []
  | step {i r n : Nat} {L : List Nat} : Upto s i L → Piece s i r n → Upto s (i + n) (L ++ [r])

theorem Upto.le {s : ByteArray} {i : Nat} {L : List Nat} (h : Upto s i L) : i ≤ s.size ∧ L.length ≤ i := by
  induction h with
  | zero => simp
  | step _ hp ih => have := hp.fits; have := hp.pos; simp; omega

theorem upto_runes {s : ByteArray} {i : Nat} {L : List Nat} (h : Upto s i L) : ∀ (m : Nat) (acc : Array Value), Conv.runesFrom s (m + L.length) 0 acc = Conv.runesFrom s m i (acc ++ (L.map (fun r => Value.int .i32 (Int.ofNat r))).toArray) := by
  induction h with
  | zero => intro m acc; simp
  | @step i r n L hl hp ih =>
    intro m acc
    have h1 : m + (L ++ [r]).length = (m + 1) + L.length := by simp; omega
    rw [h1, ih (m + 1) acc]
    have h2 : i < s.size := by have := hp.fits; have := hp.pos; omega
    show (if i < s.size then _ else _) = _
    rw [if_pos h2]
    simp only [hp.dec]
    congr 1
    simp

theorem upto_bytes {s : ByteArray} {i : Nat} {L : List Nat} (h : Upto s i L) : (runesBytes (L.map Int.ofNat)).data.toList = s.data.toList.take i := by
  induction h with
  | zero => simp [runesBytes]
  | @step i r n L hl hp ih =>
    have h1 : runesBytes ((L ++ [r]).map Int.ofNat) = runesBytes (L.map Int.ofNat) ++ Utf8.encode r := by
      unfold runesBytes
      rw [List.map_append, List.foldl_append]
      rfl
    rw [h1, ByteArray.data_append, Array.toList_append, ih, hp.enc, List.take_add]

/-- The code points of such a text, and the text that they make. -/
theorem whole {s : ByteArray} {L : List Nat} (h : Upto s s.size L) : Conv.runesFrom s s.size 0 #[] = ((L.map Int.ofNat).map (Value.int .i32)).toArray ∧ runesBytes (L.map Int.ofNat) = s := by
  constructor
  · have h1 := upto_runes h (s.size - L.length) #[]
    have h2 := h.le.2
    rw [Nat.sub_add_cancel h2] at h1
    rw [h1]
    have h3 : ∀ m acc, Conv.runesFrom s m s.size acc = acc := fun m acc => by
      cases m with
      | zero => rfl
      | succ m => show (if s.size < s.size then _ else _) = _; rw [if_neg (Nat.lt_irrefl _)]
    rw [h3]
    simp [Function.comp_def]
  · have h1 := upto_bytes h
    rw [List.take_of_length_le (by simp)] at h1
    apply ByteArray.ext
    exact Array.toList_inj.1 h1
end Go.Proofs.Ytekfehoabcbcfaa.fnEncodeExact
