/-
  FnStackScope: the law's own tests of steps; lists put one behind the other.
-/
import Derived.Test.YtbdadgkjiondgaaStkImpl
namespace Go.Proofs.Ytbdadgkjiondgaa.fnStackScope
open Go.RowKit Go.Maps Go.WideMaps
set_option linter.unusedSimpArgs false
set_option linter.unusedVariables false

/-- A Bool is handed back; if it is true this holds. -/
def Yes (p : Prop) (e : Ending) : Prop := ∃ r, e = .returned (.bool r) ∧ (r = true → p)

/-- Names that are short enough. -/
def StrsOk (len : Nat) (S : Nat → ByteArray) : Prop := (len : Int) ≤ 2147483647 ∧ ∀ i, i < len → ((S i).size : Int) ≤ 2147483647

theorem fits5_yes (c : Option Addr) (len cap : Nat) (S : Nat → ByteArray) (w : World) (h : StrsIn w c len cap S) :
    Calls Try.prog 5 #[.slice c len cap] w fun e w' => Yes (StrsOk len S) e ∧ w' = w := by
  rcases h with ⟨rfl, rfl, rfl⟩ | ⟨a, rfl, h1, h2, h3⟩
  · go_enter Try.func5, Try.ntmps5
    go_wp2
    go_rounds 1
    go_ret
    exact ⟨⟨true, rfl, fun _ => ⟨by omega, fun i hi => absurd hi (by omega)⟩⟩, rfl⟩
  · by_cases hbig : (2147483647 : Int) < len
    · go_enter Try.func5, Try.ntmps5
      go_wp2
      go_ret
      exact ⟨⟨false, rfl, fun h => by cases h⟩, rfl⟩
    · have HC : Hid _ := Lib.hid h3
      clear h3
      go_enter Try.func5, Try.ntmps5
      go_wp2
      go_loop [10] (fun i => ∃ k : Nat, k ≤ len ∧ i = .int .i64 k ∧ Hid (∀ j, j < k → ((S j).size : Int) ≤ 2147483647)) (fun i => len - (intOf i).toNat)
      case atStart => exact ⟨0, Nat.zero_le _, rfl, Lib.hid (fun j hj => absurd hj (by omega))⟩
      case round =>
        obtain ⟨k, hk, rfl, HJ⟩ := hrel
        by_cases hlt : k < len
        · obtain ⟨hb, hcell⟩ := HC.out k hlt
          by_cases hs : (2147483647 : Int) < (S k).size
          · go_wp2
            go_ret
            exact ⟨⟨false, rfl, fun h => by cases h⟩, rfl⟩
          · have HJ2 : Hid (∀ j, j < k + 1 → ((S j).size : Int) ≤ 2147483647) := Lib.hid (fun j hj => by
              by_cases hjk : j < k
              · exact HJ.out j hjk
              · obtain rfl : j = k := by omega
                omega)
            go_wp2
            go_round
            case rel => exact ⟨k + 1, by omega, by go_num, HJ2⟩
            case measure => simp [intOf]; omega
        · obtain rfl : k = len := by omega
          go_wp2
          go_ret
          exact ⟨⟨true, rfl, fun _ => ⟨by omega, HJ.out⟩⟩, rfl⟩

set_option maxRecDepth 100000 in
theorem fits14_yes (e : SE) (w : World) (h : StrsIn w e.ca e.cl e.cc e.S) :
    Calls Try.prog 10 #[.agg #[.int .i64 e.kind, .slice e.ca e.cl e.cc, .string e.name, .int .i64 e.val, .bool e.trim]] w fun r w' => Yes (SeOk e) r ∧ Below w.heap.size w w' := by
  have HS := Lib.hid h
  have hb0 : Below w.heap.size w (w.alloc (.cells #[.int .i64 e.kind, .slice e.ca e.cl e.cc, .string e.name, .int .i64 e.val, .bool e.trim] 27)) := by go_grown
  have HS2 := Lib.hid (h.below hb0)
  clear h
  by_cases hs : (2147483647 : Int) < e.name.size
  · go_enter Try.func10, Try.ntmps10
    go_wp2_with (go_at_call 5; refine (fits5_yes _ _ _ _ _ HS2.out).mono ?_; rintro e w1 ⟨⟨b, rfl, hb⟩, rfl⟩; have HB := Lib.hid hb; clear hb; cases b)
    all_goals go_ret
    all_goals exact ⟨⟨false, rfl, fun h => by cases h⟩, by go_grown⟩
  · go_enter Try.func10, Try.ntmps10
    go_wp2_with (go_at_call 5; refine (fits5_yes _ _ _ _ _ HS2.out).mono ?_; rintro e w1 ⟨⟨b, rfl, hb⟩, rfl⟩; have HB := Lib.hid hb; clear hb; cases b)
    · go_ret
      exact ⟨⟨false, rfl, fun h => by cases h⟩, by go_grown⟩
    · go_ret
      exact ⟨⟨true, rfl, fun _ => ⟨(HB.out (by first | rfl | trivial)).1, (HB.out (by first | rfl | trivial)).2, by omega⟩⟩, by go_grown⟩

set_option maxRecDepth 100000 in
theorem fits13_yes (c : Option Addr) (len cap : Nat) (E : Nat → SE) (w : World) (h : SesIn w c len cap E) :
    Calls Try.prog 4 #[.slice c len cap] w fun e w' => Yes (∀ i, i < len → SeOk (E i)) e ∧ Below w.heap.size w w' := by
  have HS := Lib.hid h
  clear h
  by_cases hbig : (2147483647 : Int) < len
  · go_enter Try.func4, Try.ntmps4
    go_wp2
    go_ret
    exact ⟨⟨false, rfl, fun h => by cases h⟩, by go_grown⟩
  · go_enter Try.func4, Try.ntmps4
    go_wp2
    go_loopw [10] (fun i wr => ∃ k : Nat, k ≤ len ∧ i = .int .i64 k ∧ Below w.heap.size w wr ∧ Hid (∀ j, j < k → SeOk (E j))) (fun i _ => len - (intOf i).toNat)
    case atStart => exact ⟨0, Nat.zero_le _, rfl, by go_grown, Lib.hid (fun j hj => absurd hj (by omega))⟩
    case round =>
      obtain ⟨k, hk, rfl, hbel, HJ⟩ := hrel
      by_cases hlt : k < len
      · obtain ⟨a, rfl, hc⟩ : ∃ a, c = some a ∧ SeIn w (a.add (k * 5)) (E k) := by
          rcases HS.out with ⟨-, h0, -⟩ | ⟨a, rfl, h1, h2, h3⟩
          · omega
          · exact ⟨a, rfl, h3 k hlt⟩
        obtain ⟨q0, q1, q2, q3, q4, q5⟩ := hc.below hbel
        have HQ := Lib.hid q5
        clear q5 hc
        have hb1 : Below wr.heap.size wr (wr.alloc (.cells #[.int .i64 (E k).kind, .slice (E k).ca (E k).cl (E k).cc, .string (E k).name, .int .i64 (E k).val, .bool (E k).trim] 27)) := by go_grown
        have HQ2 := Lib.hid (HQ.out.below hb1)
        go_wp2_with (go_at_call 10; refine (fits14_yes (E k) _ HQ2.out).mono ?_; rintro e w1 ⟨⟨b, rfl, hb⟩, hb2⟩; have HB := Lib.hid hb; clear hb; cases b)
        · go_ret
          exact ⟨⟨false, rfl, fun h => by cases h⟩, below_step (Nat.le_refl _) hbel (hb1.trans (hb2.mono hb1.size))⟩
        · have HJ2 : Hid (∀ j, j < k + 1 → SeOk (E j)) := Lib.hid (fun j hj => by
            by_cases hjk : j < k
            · exact HJ.out j hjk
            · obtain rfl : j = k := by omega
              exact HB.out (by first | rfl | trivial))
          go_roundw
          case rel => exact ⟨k + 1, by omega, by go_num, below_step (Nat.le_refl _) hbel (hb1.trans (hb2.mono hb1.size)), HJ2⟩
          case measure => first | (simp [intOf]; done) | (simp [intOf]; omega)
      · obtain rfl : k = len := by omega
        go_wp2
        go_ret
        exact ⟨⟨true, rfl, fun _ => HJ.out⟩, hbel⟩

/-- A step that is one. -/
def SeRight (e : SE) : Prop := (1 ≤ e.kind ∧ e.kind ≤ 5) ∧ (e.kind = 3 → 1 ≤ e.val)

set_option maxRecDepth 100000 in
set_option maxHeartbeats 800000 in
theorem right_yes (c : Option Addr) (len cap : Nat) (E : Nat → SE) (w : World) (h : SesIn w c len cap E) (hlen : len ≤ 1000) :
    Calls Try.prog 6 #[.slice c len cap] w fun e w' => Yes (∀ i, i < len → SeRight (E i)) e ∧ w = w' := by
  have HS := Lib.hid h
  clear h
  go_enter Try.func6, Try.ntmps6
  go_wp2
  go_loop [3] (fun i => ∃ k : Nat, k ≤ len ∧ i = .int .i64 k ∧ Hid (∀ j, j < k → SeRight (E j))) (fun i => len - (intOf i).toNat)
  case atStart => exact ⟨0, Nat.zero_le _, rfl, Lib.hid (fun j hj => absurd hj (by omega))⟩
  case round =>
    obtain ⟨k, hk, rfl, HJ⟩ := hrel
    by_cases hlt : k < len
    · obtain ⟨a, rfl, hc⟩ : ∃ a, c = some a ∧ SeIn w (a.add (k * 5)) (E k) := by
        rcases HS.out with ⟨-, h0, -⟩ | ⟨a, rfl, h1, h2, h3⟩
        · omega
        · exact ⟨a, rfl, h3 k hlt⟩
      obtain ⟨q0, q1, q2, q3, q4, -⟩ := hc
      have HJ2 : SeRight (E k) → ∀ j, j < k + 1 → SeRight (E j) := fun hr j hj => by
        by_cases hjk : j < k
        · exact HJ.out j hjk
        · obtain rfl : j = k := by omega
          exact hr
      have HJ3 := Lib.hid HJ2
      clear HJ2
      have hdef : SeRight (E k) ↔ (1 ≤ (E k).kind ∧ (E k).kind ≤ 5) ∧ ((E k).kind = 3 → 1 ≤ (E k).val) := Iff.rfl
      rw [hdef] at HJ3
      clear hdef
      generalize (E k).kind = kd at *
      generalize (E k).val = vl at *
      by_cases h1 : kd < 1
      · go_wp2
        go_ret
        exact ⟨⟨false, rfl, fun h => by cases h⟩, rfl⟩
      by_cases h5 : 5 < kd
      · go_wp2
        go_ret
        exact ⟨⟨false, rfl, fun h => by cases h⟩, rfl⟩
      by_cases h3 : kd = 3
      · subst h3
        by_cases hv : vl < 1
        · go_wp2
          go_ret
          exact ⟨⟨false, rfl, fun h => by cases h⟩, rfl⟩
        · go_wp2
          go_round
          case rel => exact ⟨k + 1, by omega, by go_num, Lib.hid (HJ3.out ⟨⟨by omega, by omega⟩, fun _ => by omega⟩)⟩
          case measure => first | (simp [intOf]; done) | (simp [intOf]; omega)
      · go_wp2
        go_round
        case rel => exact ⟨k + 1, by omega, by go_num, Lib.hid (HJ3.out ⟨⟨by omega, by omega⟩, fun h => absurd h h3⟩)⟩
        case measure => first | (simp [intOf]; done) | (simp [intOf]; omega)
    · obtain rfl : k = len := by omega
      go_wp2
      go_ret
      exact ⟨⟨true, rfl, fun _ => HJ.out⟩, rfl⟩

/-- A step that puts a frame there, or asks. -/
def SePush (e : SE) : Prop := e.kind = 1 ∨ e.kind = 2 ∨ e.kind = 5

set_option maxRecDepth 100000 in
set_option maxHeartbeats 800000 in
theorem pushes_yes (c : Option Addr) (len cap : Nat) (E : Nat → SE) (w : World) (h : SesIn w c len cap E) (hlen : len ≤ 1000) :
    Calls Try.prog 7 #[.slice c len cap] w fun e w' => Yes (∀ i, i < len → SePush (E i)) e ∧ w = w' := by
  have HS := Lib.hid h
  clear h
  go_enter Try.func7, Try.ntmps7
  go_wp2
  go_loop [3] (fun i => ∃ k : Nat, k ≤ len ∧ i = .int .i64 k ∧ Hid (∀ j, j < k → SePush (E j))) (fun i => len - (intOf i).toNat)
  case atStart => exact ⟨0, Nat.zero_le _, rfl, Lib.hid (fun j hj => absurd hj (by omega))⟩
  case round =>
    obtain ⟨k, hk, rfl, HJ⟩ := hrel
    by_cases hlt : k < len
    · obtain ⟨a, rfl, hc⟩ : ∃ a, c = some a ∧ SeIn w (a.add (k * 5)) (E k) := by
        rcases HS.out with ⟨-, h0, -⟩ | ⟨a, rfl, h1, h2, h3⟩
        · omega
        · exact ⟨a, rfl, h3 k hlt⟩
      obtain ⟨q0, q1, q2, q3, q4, -⟩ := hc
      have HJ3 : Hid (((E k).kind = 1 ∨ (E k).kind = 2 ∨ (E k).kind = 5) → ∀ j, j < k + 1 → SePush (E j)) := Lib.hid (fun hr j hj => by
        by_cases hjk : j < k
        · exact HJ.out j hjk
        · obtain rfl : j = k := by omega
          exact hr)
      generalize (E k).kind = kd at *
      by_cases h1 : kd = 1
      · subst h1
        go_wp2
        go_round
        case rel => exact ⟨k + 1, by omega, by go_num, Lib.hid (HJ3.out (by omega))⟩
        case measure => first | (simp [intOf]; done) | (simp [intOf]; omega)
      by_cases h2 : kd = 2
      · subst h2
        go_wp2
        go_round
        case rel => exact ⟨k + 1, by omega, by go_num, Lib.hid (HJ3.out (by omega))⟩
        case measure => first | (simp [intOf]; done) | (simp [intOf]; omega)
      by_cases h5 : kd = 5
      · subst h5
        go_wp2
        go_round
        case rel => exact ⟨k + 1, by omega, by go_num, Lib.hid (HJ3.out (by omega))⟩
        case measure => first | (simp [intOf]; done) | (simp [intOf]; omega)
      · have b1 : (kd != 1) = true := by simp [h1]
        have b2 : (kd != 2) = true := by simp [h2]
        have b5 : (kd != 5) = true := by simp [h5]
        go_wp2
        go_ret
        exact ⟨⟨false, rfl, fun h => by cases h⟩, rfl⟩
    · obtain rfl : k = len := by omega
      go_wp2
      go_ret
      exact ⟨⟨true, rfl, fun _ => HJ.out⟩, rfl⟩

/-- How many there are in the first k lists; which. -/
def accN (ns : Nat → Nat) : Nat → Nat
  | 0 => 0
  | k + 1 => accN ns k + ns k

def accE (Es : Nat → Nat → SE) (ns : Nat → Nat) : Nat → Nat → SE
  | 0 => Es 0
  | k + 1 => glue (accE Es ns k) (accN ns k) (Es k)

theorem accN_le {ns : Nat → Nat} {m : Nat} (h : ∀ j, j < m → ns j ≤ 60) : ∀ k, k ≤ m → accN ns k ≤ 60 * k
  | 0, _ => Nat.le_refl _
  | k + 1, hk => by
    have := accN_le h k (by omega)
    have := h k (by omega)
    show accN ns k + ns k ≤ _
    omega

theorem SesIn.strs {w : World} {c : Option Addr} {len cap : Nat} {E : Nat → SE} (h : SesIn w c len cap E) {j : Nat} (hj : j < len) : StrsIn w (E j).ca (E j).cl (E j).cc (E j).S := by
  rcases h with ⟨-, h0, -⟩ | ⟨a, -, -, -, h3⟩
  · omega
  · exact (h3 j hj).2.2.2.2.2

theorem acc_strs {w : World} {cs : Nat → Option Addr} {ns caps : Nat → Nat} {Es : Nat → Nat → SE} {m : Nat} (h : ∀ j, j < m → SesIn w (cs j) (ns j) (caps j) (Es j)) : ∀ k, k ≤ m → ∀ i, i < accN ns k → StrsIn w (accE Es ns k i).ca (accE Es ns k i).cl (accE Es ns k i).cc (accE Es ns k i).S
  | 0, _ => fun i hi => absurd hi (by simp [accN])
  | k + 1, hk => fun i hi => by
    have ih := acc_strs h k (by omega)
    show StrsIn w (glue _ _ _ i).ca _ _ _
    by_cases hik : i < accN ns k
    · have e : accE Es ns (k + 1) i = accE Es ns k i := by show glue _ _ _ i = _; simp [glue, hik]
      rw [e, show glue (accE Es ns k) (accN ns k) (Es k) i = accE Es ns k i from e]
      exact ih i hik
    · have e : accE Es ns (k + 1) i = Es k (i - accN ns k) := by show glue _ _ _ i = _; simp [glue, hik]
      rw [e, show glue (accE Es ns k) (accN ns k) (Es k) i = Es k (i - accN ns k) from e]
      exact (h k (by omega)).strs (by have : i < accN ns k + ns k := hi; omega)

set_option maxRecDepth 100000 in
set_option maxHeartbeats 800000 in
theorem steps7_any (g m : Nat) (cs : Nat → Option Addr) (ns caps : Nat → Nat) (Es : Nat → Nat → SE) (w : World) (hc : ∀ j, j < m → w.cell? ⟨g, j, none⟩ = some (.slice (cs j) (ns j) (caps j))) (hS : ∀ j, j < m → SesIn w (cs j) (ns j) (caps j) (Es j)) (hn : ∀ j, j < m → ns j ≤ 60) (hm : m ≤ 3) :
    Calls Try.prog 9 #[.slice (some ⟨g, 0, none⟩) m m] w
    fun e w' => ∃ c cap, e = .returned (.slice c (accN ns m) cap) ∧ SesIn w' c (accN ns m) cap (accE Es ns m) ∧ Below w.heap.size w w' := by
  have HC := Lib.hid hc
  have HS := Lib.hid hS
  have HN := Lib.hid (fun k hk => accN_le hn k hk)
  clear hc hS
  go_enter Try.func9, Try.ntmps9
  go_wp2
  go_loopw [3, 4] (fun r i wr => ∃ k : Nat, k ≤ m ∧ i = .int .i64 k ∧ wr.ownsRow w.heap.size 27 5 r (accN ns k) (ses (accE Es ns k) (accN ns k)) ∧ Below w.heap.size w wr) (fun _ i _ => m - (intOf i).toNat)
  case atStart => exact ⟨0, Nat.zero_le _, rfl, World.ownsRow_nil _ _ _ _, by go_grown⟩
  case round =>
    obtain ⟨k, hk, rfl, hrow, hbel⟩ := hrel
    have hsz := hbel.size
    have HR := Lib.hid hrow
    clear hrow
    by_cases hlt : k < m
    · have hck := cell_later hbel (HC.out k hlt)
      have HSk := Lib.hid ((HS.out k hlt).below hbel)
      have hle := HN.out k (by omega)
      have hnk := hn k hlt
      go_wp2_with (at_builtin; refine wpList_append_run rfl (.tmp 11) (.tmp 15) 22 rfl (app_ses HR.out HSk.out hsz (by omega)) ?_; rintro v1 w2 ⟨hown, hg⟩)
      have hB2 : Below w.heap.size w w2 := Below.grown hbel hg hsz (fun b hb => (HR.out.lt b hb).1)
      go_roundw
      case rel => exact ⟨k + 1, by omega, by go_num, hown, hB2⟩
      case measure => first | (simp [intOf]; done) | (simp [intOf]; omega)
    · obtain rfl : k = m := by omega
      obtain ⟨cc, cp, rfl, hin⟩ := row_in HR.out (fun j hj => (acc_strs HS.out k (Nat.le_refl _) j hj).below hbel)
      go_wp2
      go_ret
      exact ⟨_, _, rfl, hin, hbel⟩
end Go.Proofs.Ytbdadgkjiondgaa.fnStackScope
