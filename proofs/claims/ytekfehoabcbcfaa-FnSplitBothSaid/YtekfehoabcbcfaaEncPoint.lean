/-
  FnEncodeExact: the specification's reading of one code point.
-/
import Derived.Test.YtekfehoabcbcfaaEncText
import Derived.WalkKit
import Derived.WalkSpells
import Derived.WalkLawsBesides
import Derived.Below
import Derived.Lib.Hide
import Derived.Outline
import Derived.OpenShut
import Derived.Handy
import Derived.RegionTactic
import Derived.ChangeAlike
import Derived.Deep.RegionWith
import Derived.Deep.RegionHeld3
import Derived.Deep.QuietTactic
import Derived.BigQuiet
import Derived.Deep.Slices
import Derived.Deep.Strs
import Derived.Deep.Fields
import Derived.ChangeSame
namespace Go.Proofs.Ytekfehoabcbcfaa.fnEncodeExact
open Go.RowKit
set_option linter.unusedSimpArgs false
set_option linter.unusedVariables false

/-- What is told of the place i: no code point; or this one. -/
def Told (s : ByteArray) (i : Nat) (w : World) (e : Ending) (w' : World) : Prop := ∃ r n : Nat, e = .returned (.tuple #[.int .i64 r, .int .i64 n]) ∧ (n = 0 ∨ Piece s i r n) ∧ w = w'

theorem get_of {s : ByteArray} {j : Nat} (h : j < s.size) {c : Nat} (hc : s[j].toNat = c) : (s.get! j).toNat = c := by
  rw [← hc]
  congr 1
  show s.data[j]! = _
  rw [getElem!_pos s.data j (by simpa using h)]
  rfl

theorem byte_lt (s : ByteArray) (j : Nat) (h : j < s.size) : s[j].toNat < 256 := UInt8.toNat_lt _

theorem told_none (s : ByteArray) (i : Nat) (w : World) : Told s i w (.returned (.tuple #[.int .i64 0, .int .i64 0])) w := ⟨0, 0, rfl, .inl rfl, rfl⟩

theorem told_piece {s : ByteArray} {i : Nat} {w : World} {x m : Int} {r n : Nat} (hx : x = r) (hm : m = n) (hp : Piece s i r n) : Told s i w (.returned (.tuple #[.int .i64 x, .int .i64 m])) w := by
  subst hx hm
  exact ⟨r, n, rfl, .inr hp, rfl⟩

/-- The byte at a place. -/
def by_ (s : ByteArray) (j : Nat) : Nat := (s.get! j).toNat

/-- What is read of a code point behind j bytes, the first of which gives v. -/
def val (s : ByteArray) (i v : Nat) : Nat → Nat
  | 0 => 0
  | 1 => v
  | j + 2 => val s i v (j + 1) * 64 + (by_ s (i + (j + 1)) - 128)

/-- The bytes behind the first one, up to j, go on. -/
def goOn (s : ByteArray) (i j : Nat) : Prop := ∀ m, 1 ≤ m → m < j → 128 ≤ by_ s (i + m) ∧ by_ s (i + m) < 192

theorem val_lt (s : ByteArray) (i v : Nat) (hv : v < 32) : ∀ j, j ≤ 4 → goOn s i j → val s i v j < 8388608 ∧ (j ≤ 3 → val s i v j < 131072) ∧ (j ≤ 2 → val s i v j < 2048) ∧ (j ≤ 1 → val s i v j < 32) := by
  intro j hj hg
  have h0 : val s i v 0 = 0 := rfl
  have h1 : val s i v 1 = v := rfl
  have h2 : val s i v 2 = val s i v 1 * 64 + (by_ s (i + 1) - 128) := rfl
  have h3 : val s i v 3 = val s i v 2 * 64 + (by_ s (i + 2) - 128) := rfl
  have h4 : val s i v 4 = val s i v 3 * 64 + (by_ s (i + 3) - 128) := rfl
  have b1 := fun h => hg 1 (by omega) h
  have b2 := fun h => hg 2 (by omega) h
  have b3 := fun h => hg 3 (by omega) h
  rcases (by omega : j = 0 ∨ j = 1 ∨ j = 2 ∨ j = 3 ∨ j = 4) with rfl | rfl | rfl | rfl | rfl
  · omega
  · omega
  · have := b1 (by omega); omega
  · have := b1 (by omega); have := b2 (by omega); omega
  · have := b1 (by omega); have := b2 (by omega); have := b3 (by omega); omega

theorem val_piece {s : ByteArray} {i c n lo : Nat} (hc : by_ s i = c) (h : i + n ≤ s.size) (hg : goOn s i n)
    (hn : n = 2 ∧ lo = 192 ∧ c < 224 ∧ 128 ≤ val s i (c - lo) n ∨ n = 3 ∧ lo = 224 ∧ c < 240 ∧ 2048 ≤ val s i (c - lo) n ∨ n = 4 ∧ lo = 240 ∧ c < 248 ∧ 65536 ≤ val s i (c - lo) n) (h1 : lo ≤ c)
    (h2 : val s i (c - lo) n < 55296 ∨ 57344 ≤ val s i (c - lo) n) (h3 : val s i (c - lo) n ≤ 1114111) : Piece s i (val s i (c - lo) n) n := by
  have e1 : ∀ v, val s i v 1 = v := fun _ => rfl
  have e2 : ∀ v, val s i v 2 = val s i v 1 * 64 + (by_ s (i + 1) - 128) := fun _ => rfl
  have e3 : ∀ v, val s i v 3 = val s i v 2 * 64 + (by_ s (i + 2) - 128) := fun _ => rfl
  have e4 : ∀ v, val s i v 4 = val s i v 3 * 64 + (by_ s (i + 3) - 128) := fun _ => rfl
  have b1 := fun h => hg 1 (by omega) h
  have b2 := fun h => hg 2 (by omega) h
  have b3 := fun h => hg 3 (by omega) h
  rcases hn with ⟨rfl, rfl, h4, h5⟩ | ⟨rfl, rfl, h4, h5⟩ | ⟨rfl, rfl, h4, h5⟩
  · have := b1 (by omega)
    exact piece2 h hc rfl h1 h4 (by unfold by_ at this; omega) (by unfold by_ at this; omega) (by rw [e2, e1]; rfl) h5
  · have := b1 (by omega)
    have := b2 (by omega)
    exact piece3 h hc (d := by_ s (i + 1)) rfl (e := by_ s (i + 2)) rfl h1 h4 (by omega) (by omega) (by omega) (by omega) (by rw [e3, e2, e1]; omega) h5 h2
  · have := b1 (by omega)
    have := b2 (by omega)
    have := b3 (by omega)
    exact piece4 h hc (d := by_ s (i + 1)) rfl (e := by_ s (i + 2)) rfl (f := by_ s (i + 3)) rfl h1 h4 (by omega) (by omega) (by omega) (by omega) (by omega) (by omega) (by rw [e4, e3, e2, e1]; omega) h5 h3

set_option maxRecDepth 100000 in
set_option maxHeartbeats 1600000 in
theorem point2_any (s : ByteArray) (i : Nat) (hi : i < s.size) (hz : s.size ≤ 2000) (w : World) (c : Nat) (hc : s[i].toNat = c) (h2 : 192 ≤ c) (h3 : c < 224) :
    Calls Try.prog 14 #[.string s, .int .i64 i] w (Told s i w) := by
  have hcw : wrap64 (c : Int) = c := by go_arith
  have h1' : ¬ (c : Int) < 128 := by omega
  have h2' : 192 ≤ (c : Int) := by omega
  have h3' : (c : Int) < 224 := by omega
  by_cases hl : s.size < i + 2
  · have hl' : (2 : Int) > s.size - i := by omega
    clear h2 h3 hl
    go_enter Try.func14, Try.ntmps14
    go_wp2
    go_ret2
    exact told_none _ _ _
  have hl' : ¬ ((2 : Int) > s.size - i) := by omega
  have hc' : by_ s i = c := get_of hi hc
  have HC := Lib.hid hc'
  have HV := Lib.hid (fun j => val_lt s i (c - 192) (by omega) j)
  have HP := Lib.hid (fun (hg : goOn s i 2) (h : 128 ≤ val s i (c - 192) 2) => val_piece (n := 2) (lo := 192) hc' (by omega) hg (.inl ⟨rfl, rfl, by omega, h⟩) (by omega))
  have hsub : (c : Int) - 192 = (c - 192 : Nat) := by omega
  clear h2 h3 hc'
  go_enter Try.func14, Try.ntmps14
  go_wp2
  go_loop [4, 5, 8] (fun r nn k => ∃ j : Nat, 1 ≤ j ∧ j ≤ 2 ∧ k = .int .i64 j ∧ nn = .int .i64 2 ∧ r = .int .i64 (val s i (c - 192) j) ∧ Hid (goOn s i j)) (fun _ _ k => 2 - (intOf k).toNat)
  case atStart => exact ⟨1, by omega, by omega, rfl, rfl, by (try rw [hsub]); rfl, Lib.hid (fun m h1 h2 => by omega)⟩
  case round =>
    obtain ⟨j, hj1, hj, rfl, rfl, rfl, HG⟩ := hrel
    have hlt := (HV.out j (by omega) HG.out).1
    have hlt3 := (HV.out j (by omega) HG.out).2.1
    by_cases hjn : j < 2
    · have hij : i + j < s.size := by omega
      have hb1 := byte_lt s (i + j) hij
      generalize hd : (s[i + j]'hij).toNat = d at hb1
      have hdw : wrap64 (d : Int) = d := by go_arith
      have HD : Hid (by_ s (i + j) = d) := Lib.hid (get_of hij hd)
      have hlt4 := hlt3 (by omega)
      clear hlt3
      generalize hr : val s i (c - 192) j = r at hlt hlt4
      have HR := Lib.hid hr
      clear hr
      by_cases d1 : (d : Int) < 128
      · go_wp2
        go_ret2
        exact told_none _ _ _
      by_cases d2 : 192 ≤ (d : Int)
      · go_wp2
        go_ret2
        exact told_none _ _ _
      have HG' : Hid (goOn s i (j + 1)) := Lib.hid (fun m h1 h2 => by
        by_cases hm : m = j
        · subst hm; rw [HD.out]; omega
        · exact HG.out m h1 (by omega))
      have HN : Hid ((val s i (c - 192) (j + 1) : Int) = (r : Int) * 64 + d - 128) := Lib.hid (by
        obtain ⟨q, rfl⟩ : ∃ q, j = q + 1 := ⟨j - 1, by omega⟩
        show ((val s i (c - 192) (q + 1) * 64 + (by_ s (i + (q + 1)) - 128) : Nat) : Int) = _
        rw [HD.out, HR.out]
        omega)
      go_wp2
      go_round
      case rel => exact ⟨j + 1, by omega, by omega, by go_num, rfl, by rw [HN.out], HG'⟩
      case measure => first | (simp [intOf]; done) | (simp [intOf]; omega)
    · obtain rfl : j = 2 := by omega
      have HP' := Lib.hid (HP.out HG.out)
      clear hlt3 HP
      generalize hr : val s i (c - 192) 2 = r at hlt HP' ⊢
      go_wp2
      all_goals
        go_ret2
        first
          | exact told_piece (r := r) (n := 2) rfl rfl (HP'.out (by omega) (by omega) (by omega))
          | exact told_none _ _ _

set_option maxRecDepth 100000 in
set_option maxHeartbeats 1600000 in
theorem point3_any (s : ByteArray) (i : Nat) (hi : i < s.size) (hz : s.size ≤ 2000) (w : World) (c : Nat) (hc : s[i].toNat = c) (h2 : 224 ≤ c) (h3 : c < 240) :
    Calls Try.prog 14 #[.string s, .int .i64 i] w (Told s i w) := by
  have hcw : wrap64 (c : Int) = c := by go_arith
  have h1' : ¬ (c : Int) < 128 := by omega
  have h2a : ¬ (c : Int) < 224 := by omega
  have h2' : 224 ≤ (c : Int) := by omega
  have h3' : (c : Int) < 240 := by omega
  by_cases hl : s.size < i + 3
  · have hl' : (3 : Int) > s.size - i := by omega
    clear h2 h3 hl
    go_enter Try.func14, Try.ntmps14
    go_wp2
    go_ret2
    exact told_none _ _ _
  have hl' : ¬ ((3 : Int) > s.size - i) := by omega
  have hc' : by_ s i = c := get_of hi hc
  have HC := Lib.hid hc'
  have HV := Lib.hid (fun j => val_lt s i (c - 224) (by omega) j)
  have HP := Lib.hid (fun (hg : goOn s i 3) (h : 2048 ≤ val s i (c - 224) 3) => val_piece (n := 3) (lo := 224) hc' (by omega) hg (.inr (.inl ⟨rfl, rfl, by omega, h⟩)) (by omega))
  have hsub : (c : Int) - 224 = (c - 224 : Nat) := by omega
  clear h2 h3 hc'
  go_enter Try.func14, Try.ntmps14
  go_wp2
  go_loop [4, 5, 8] (fun r nn k => ∃ j : Nat, 1 ≤ j ∧ j ≤ 3 ∧ k = .int .i64 j ∧ nn = .int .i64 3 ∧ r = .int .i64 (val s i (c - 224) j) ∧ Hid (goOn s i j)) (fun _ _ k => 3 - (intOf k).toNat)
  case atStart => exact ⟨1, by omega, by omega, rfl, rfl, by (try rw [hsub]); rfl, Lib.hid (fun m h1 h2 => by omega)⟩
  case round =>
    obtain ⟨j, hj1, hj, rfl, rfl, rfl, HG⟩ := hrel
    have hlt := (HV.out j (by omega) HG.out).1
    have hlt3 := (HV.out j (by omega) HG.out).2.1
    by_cases hjn : j < 3
    · have hij : i + j < s.size := by omega
      have hb1 := byte_lt s (i + j) hij
      generalize hd : (s[i + j]'hij).toNat = d at hb1
      have hdw : wrap64 (d : Int) = d := by go_arith
      have HD : Hid (by_ s (i + j) = d) := Lib.hid (get_of hij hd)
      have hlt4 := hlt3 (by omega)
      clear hlt3
      generalize hr : val s i (c - 224) j = r at hlt hlt4
      have HR := Lib.hid hr
      clear hr
      by_cases d1 : (d : Int) < 128
      · go_wp2
        go_ret2
        exact told_none _ _ _
      by_cases d2 : 192 ≤ (d : Int)
      · go_wp2
        go_ret2
        exact told_none _ _ _
      have HG' : Hid (goOn s i (j + 1)) := Lib.hid (fun m h1 h2 => by
        by_cases hm : m = j
        · subst hm; rw [HD.out]; omega
        · exact HG.out m h1 (by omega))
      have HN : Hid ((val s i (c - 224) (j + 1) : Int) = (r : Int) * 64 + d - 128) := Lib.hid (by
        obtain ⟨q, rfl⟩ : ∃ q, j = q + 1 := ⟨j - 1, by omega⟩
        show ((val s i (c - 224) (q + 1) * 64 + (by_ s (i + (q + 1)) - 128) : Nat) : Int) = _
        rw [HD.out, HR.out]
        omega)
      go_wp2
      go_round
      case rel => exact ⟨j + 1, by omega, by omega, by go_num, rfl, by rw [HN.out], HG'⟩
      case measure => first | (simp [intOf]; done) | (simp [intOf]; omega)
    · obtain rfl : j = 3 := by omega
      have HP' := Lib.hid (HP.out HG.out)
      clear hlt3 HP
      generalize hr : val s i (c - 224) 3 = r at hlt HP' ⊢
      go_wp2
      all_goals
        go_ret2
        first
          | exact told_piece (r := r) (n := 3) rfl rfl (HP'.out (by omega) (by omega) (by omega))
          | exact told_none _ _ _

set_option maxRecDepth 100000 in
set_option maxHeartbeats 1600000 in
theorem point4_any (s : ByteArray) (i : Nat) (hi : i < s.size) (hz : s.size ≤ 2000) (w : World) (c : Nat) (hc : s[i].toNat = c) (h2 : 240 ≤ c) (h3 : c < 248) :
    Calls Try.prog 14 #[.string s, .int .i64 i] w (Told s i w) := by
  have hcw : wrap64 (c : Int) = c := by go_arith
  have h1' : ¬ (c : Int) < 128 := by omega
  have h2a : ¬ (c : Int) < 224 := by omega
  have h2b : ¬ (c : Int) < 240 := by omega
  have h2' : 240 ≤ (c : Int) := by omega
  have h3' : (c : Int) < 248 := by omega
  by_cases hl : s.size < i + 4
  · have hl' : (4 : Int) > s.size - i := by omega
    clear h2 h3 hl
    go_enter Try.func14, Try.ntmps14
    go_wp2
    go_ret2
    exact told_none _ _ _
  have hl' : ¬ ((4 : Int) > s.size - i) := by omega
  have hc' : by_ s i = c := get_of hi hc
  have HC := Lib.hid hc'
  have HV := Lib.hid (fun j => val_lt s i (c - 240) (by omega) j)
  have HP := Lib.hid (fun (hg : goOn s i 4) (h : 65536 ≤ val s i (c - 240) 4) => val_piece (n := 4) (lo := 240) hc' (by omega) hg (.inr (.inr ⟨rfl, rfl, by omega, h⟩)) (by omega))
  have hsub : (c : Int) - 240 = (c - 240 : Nat) := by omega
  clear h2 h3 hc'
  go_enter Try.func14, Try.ntmps14
  go_wp2
  go_loop [4, 5, 8] (fun r nn k => ∃ j : Nat, 1 ≤ j ∧ j ≤ 4 ∧ k = .int .i64 j ∧ nn = .int .i64 4 ∧ r = .int .i64 (val s i (c - 240) j) ∧ Hid (goOn s i j)) (fun _ _ k => 4 - (intOf k).toNat)
  case atStart => exact ⟨1, by omega, by omega, rfl, rfl, by (try rw [hsub]); rfl, Lib.hid (fun m h1 h2 => by omega)⟩
  case round =>
    obtain ⟨j, hj1, hj, rfl, rfl, rfl, HG⟩ := hrel
    have hlt := (HV.out j (by omega) HG.out).1
    have hlt3 := (HV.out j (by omega) HG.out).2.1
    by_cases hjn : j < 4
    · have hij : i + j < s.size := by omega
      have hb1 := byte_lt s (i + j) hij
      generalize hd : (s[i + j]'hij).toNat = d at hb1
      have hdw : wrap64 (d : Int) = d := by go_arith
      have HD : Hid (by_ s (i + j) = d) := Lib.hid (get_of hij hd)
      have hlt4 := hlt3 (by omega)
      clear hlt3
      generalize hr : val s i (c - 240) j = r at hlt hlt4
      have HR := Lib.hid hr
      clear hr
      by_cases d1 : (d : Int) < 128
      · go_wp2
        go_ret2
        exact told_none _ _ _
      by_cases d2 : 192 ≤ (d : Int)
      · go_wp2
        go_ret2
        exact told_none _ _ _
      have HG' : Hid (goOn s i (j + 1)) := Lib.hid (fun m h1 h2 => by
        by_cases hm : m = j
        · subst hm; rw [HD.out]; omega
        · exact HG.out m h1 (by omega))
      have HN : Hid ((val s i (c - 240) (j + 1) : Int) = (r : Int) * 64 + d - 128) := Lib.hid (by
        obtain ⟨q, rfl⟩ : ∃ q, j = q + 1 := ⟨j - 1, by omega⟩
        show ((val s i (c - 240) (q + 1) * 64 + (by_ s (i + (q + 1)) - 128) : Nat) : Int) = _
        rw [HD.out, HR.out]
        omega)
      go_wp2
      go_round
      case rel => exact ⟨j + 1, by omega, by omega, by go_num, rfl, by rw [HN.out], HG'⟩
      case measure => first | (simp [intOf]; done) | (simp [intOf]; omega)
    · obtain rfl : j = 4 := by omega
      have HP' := Lib.hid (HP.out HG.out)
      clear hlt3 HP
      generalize hr : val s i (c - 240) 4 = r at hlt HP' ⊢
      go_wp2
      all_goals
        go_ret2
        first
          | exact told_piece (r := r) (n := 4) rfl rfl (HP'.out (by omega) (by omega) (by omega))
          | exact told_none _ _ _

set_option maxRecDepth 100000 in
set_option maxHeartbeats 1600000 in
theorem point_any (s : ByteArray) (i : Nat) (hi : i < s.size) (hz : s.size ≤ 2000) (w : World) :
    Calls Try.prog 14 #[.string s, .int .i64 i] w (Told s i w) := by
  have hb := byte_lt s i hi
  generalize hc : s[i].toNat = c at hb
  have hcw : wrap64 (c : Int) = c := by go_arith
  by_cases h1 : c < 128
  · have HP := Lib.hid (piece1 hi (get_of hi hc) h1)
    have h1' : (c : Int) < 128 := by omega
    clear h1
    go_enter Try.func14, Try.ntmps14
    go_wp2
    go_ret2
    exact told_piece rfl rfl HP.out
  by_cases h2 : c < 192
  · have h1' : ¬ (c : Int) < 128 := by omega
    have h2' : ¬ 192 ≤ (c : Int) := by omega
    have h3' : ¬ 224 ≤ (c : Int) := by omega
    have h4' : ¬ 240 ≤ (c : Int) := by omega
    clear h1 h2
    go_enter Try.func14, Try.ntmps14
    go_wp2
    go_ret2
    exact told_none _ _ _
  by_cases h3 : c < 224
  · exact point2_any s i hi hz w c hc (by omega) h3
  have h224 : ¬ c < 224 := h3
  clear h3
  by_cases h3 : c < 240
  · exact point3_any s i hi hz w c hc (by omega) h3
  have h240 : ¬ c < 240 := h3
  clear h3
  by_cases h3 : c < 248
  · exact point4_any s i hi hz w c hc (by omega) h3
  have h248 : ¬ c < 248 := h3
  clear h3
  have h1' : ¬ (c : Int) < 128 := by omega
  have h2a : ¬ (c : Int) < 224 := by omega
  have h2b : ¬ (c : Int) < 240 := by omega
  have h2c : ¬ (c : Int) < 248 := by omega
  clear h1 h2 h224 h240 h248
  go_enter Try.func14, Try.ntmps14
  go_wp2
  go_ret2
  exact told_none _ _ _
end Go.Proofs.Ytekfehoabcbcfaa.fnEncodeExact
