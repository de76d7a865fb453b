/-
  FnSeen, FnStepsRemoved: the specification's list of fields.
-/
import Derived.Test.YtbdadgkjiondgaaDoorSeeImpl
import Derived.Test.YtbdadgkjiondgaaDoorHeld
import Derived.Sort.Walk0
namespace Go.Proofs.YtbdadgkjiondgaaDoor.see
open Go.RowKit Go.Maps Go.WideMaps Go.Sort
set_option linter.unusedSimpArgs false
set_option linter.unusedVariables false

/-- The cells of a list of fields. -/
def seenCells (L : Fl) : List Value := L.flatMap fun a => [.string ⟨a.1.toArray⟩, .int .i64 a.2]

theorem seenCells_append (L M : Fl) : seenCells (L ++ M) = seenCells L ++ seenCells M := by unfold seenCells; rw [List.flatMap_append]

theorem seenCells_length (L : Fl) : (seenCells L).length = L.length * 2 := by
  induction L with
  | nil => rfl
  | cons a L ih =>
    show (_ :: _ :: seenCells L).length = _
    simp [ih]; omega

theorem seenCells_get {L : Fl} {i : Nat} {a : Nm × Int} (h : L[i]? = some a) : (seenCells L)[i * 2]? = some (.string ⟨a.1.toArray⟩) ∧ (seenCells L)[i * 2 + 1]? = some (.int .i64 a.2) := by
  induction L generalizing i with
  | nil => simp at h
  | cons b L ih =>
    cases i with
    | zero => simp at h; subst h; exact ⟨rfl, rfl⟩
    | succ i =>
      have := ih (i := i) (by simpa using h)
      have e : (i + 1) * 2 = i * 2 + 1 + 1 := by omega
      rw [e]
      exact this

/-- A list of fields that the call owns. -/
def SeenRow (w : World) (B : Nat) (v : Value) (L : Fl) : Prop := w.ownsRow B 31 2 v L.length (seenCells L)

theorem SeenRow.at {w : World} {B : Nat} {v : Value} {L : Fl} (h : SeenRow w B v L) {i : Nat} (hi : i < L.length) :
    ∃ g cap s c, v = .slice (some ⟨g, 0, none⟩) L.length cap ∧ L[i]? = some (s.data.toList, c) ∧ w.cell? ⟨g, i * 2, none⟩ = some (.string s) ∧ w.cell? ⟨g, i * 2 + 1, none⟩ = some (.int .i64 c) := by
  rcases own_form h with ⟨-, h2⟩ | ⟨g, cap, rfl, -⟩
  · omega
  · obtain ⟨⟨x, c⟩, hat⟩ : ∃ a, L[i]? = some a := ⟨_, List.getElem?_eq_getElem hi⟩
    obtain ⟨h1, h2⟩ := seenCells_get hat
    exact ⟨g, cap, ⟨x.toArray⟩, c, rfl, hat, (World.ownsRow.cellAt h (i * 2) (by omega)).trans h1, (World.ownsRow.cellAt h (i * 2 + 1) (by omega)).trans h2⟩

theorem infoSeen : (Tryd.prog.info? 31).map (fun i => (i.zero, i.size, i.bytes)) = some (some (.agg #[.string ⟨#[]⟩, .int .i64 0]), 2, 24) := by kernel_rfl

theorem take_wo {L : Fl} {x : Nm} {i : Nat} {a : Nm × Int} (h : L[i]? = some a) : without (L.take (i + 1)) x = if a.1 = x then without (L.take i) x else without (L.take i) x ++ [a] := by
  unfold without
  rw [List.take_add_one, h, List.filter_append]
  by_cases e : a.1 = x
  · rw [if_pos e]; simp [e]
  · rw [if_neg e]; simp [e]

theorem wo_le (L : Fl) (x : Nm) : (without L x).length ≤ L.length := List.length_filter_le _ _

theorem bytes_eq {a b : ByteArray} (h : a.data.toList = b.data.toList) : a = b := ByteArray.ext (Array.toList_inj.1 h)

theorem one_seen (s : ByteArray) (c : Int) : seenCells [(s.data.toList, c)] = [.string s, .int .i64 c] := by
  show [Value.string ⟨s.data.toList.toArray⟩, .int .i64 c] = _
  simp

theorem slice_inj {a a' : Option Addr} {n n' c c' : Nat} (h : Value.slice a n c = .slice a' n' c') : a = a' ∧ n = n' ∧ c = c' := by cases h; exact ⟨rfl, rfl, rfl⟩

theorem add_half (g k : Nat) : (⟨((⟨g, 0, none⟩ : Addr).add (k * 2)).block, ((⟨g, 0, none⟩ : Addr).add (k * 2)).off + 1, none⟩ : Addr) = ⟨g, k * 2 + 1, none⟩ := add_at g (k * 2) 1 (by omega)

set_option maxRecDepth 100000 in
set_option maxHeartbeats 1600000 in
theorem without_any (v : Value) (L : Fl) (x : ByteArray) (B : Nat) (w : World) (h : SeenRow w B v L) (hlen : L.length ≤ 100000) :
    Calls Tryd.prog 17 #[v, .string x] w fun e w' => ∃ v', e = .returned v' ∧ SeenRow w' w.heap.size v' (without L x.data.toList) ∧ Below w.heap.size w w' := by
  obtain ⟨ao, cp, rfl⟩ := owns_slice h
  have HL := Lib.hid h
  clear h
  go_enter Tryd.func17, Tryd.ntmps17
  go_wp2_with fail
  go_loopw [5, 6] (fun v i wr => ∃ k : Nat, k ≤ L.length ∧ i = .int .i64 k ∧ SeenRow wr w.heap.size v (without (L.take k) x.data.toList) ∧ Below w.heap.size w wr) (fun _ i _ => L.length - (intOf i).toNat)
  case atStart => exact ⟨0, Nat.zero_le _, rfl, World.ownsRow_nil _ _ _ _, Below.refl _ _⟩
  case round =>
    obtain ⟨k, hk, rfl, hrow, hbel⟩ := hrel
    have HR := Lib.hid hrow
    have hsz := hbel.size
    have hle : (without (L.take k) x.data.toList).length ≤ k := Nat.le_trans (wo_le _ _) (by simp; omega)
    obtain ⟨v0, hv0⟩ : ∃ m : Nat, m = (without (L.take k) x.data.toList).length := ⟨_, rfl⟩
    rw [← hv0] at hle
    have HV0 := Lib.hid hv0
    have hrow' : wr.ownsRow w.heap.size 31 2 u5 v0 (seenCells (without (L.take k) x.data.toList)) := by rw [hv0]; exact hrow
    have HR' := Lib.hid hrow'
    clear hrow hv0 hrow'
    by_cases hlt : k < L.length
    · obtain ⟨g, cap, s, c, hv, hat, c0, c1⟩ := HL.out.at hlt
      obtain ⟨rfl, -, rfl⟩ := slice_inj hv
      have d0 := cell_later hbel c0
      have d1 := cell_later hbel c1
      have HT := Lib.hid (take_wo (x := x.data.toList) hat)
      clear hv hat c0 c1
      obtain ⟨ao2, cp2, rfl⟩ := owns_slice HR'.out
      by_cases hs : s = x
      · have hsm := seq_true hs
        have HT2 : Hid (without (L.take (k + 1)) x.data.toList = without (L.take k) x.data.toList) := Lib.hid (by rw [HT.out, if_pos (by rw [hs])])
        clear hs
        go_wp2_with fail
        go_roundw
        case rel => exact ⟨k + 1, by omega, by go_num, by rw [HT2.out]; exact HR.out, hbel⟩
        case measure => first | (simp [intOf]; done) | (simp [intOf]; omega)
      · have hsm := seq_false hs
        have HT2 : Hid (without (L.take (k + 1)) x.data.toList = without (L.take k) x.data.toList ++ [(s.data.toList, c)]) := Lib.hid (by rw [HT.out, if_neg (fun e => hs (bytes_eq e))])
        clear hs
        go_wp2_with (at_builtin; refine wpList_append_run rfl (.tmp 20) (.tmp 25) 28 rfl (appS (wr := wr) (B := w.heap.size) 28 28 31 Tryd.underlying28 infoSeen rfl (by decide) HR'.out hsz (grown_of_below (by go_grown)) (by omega) (by omega) [.string s, .int .i64 c] rfl (by intro u hu; simp at hu; rcases hu with rfl | rfl <;> rfl) _ _ (cells_new (by simp))) ?_; rintro v1 w2 ⟨hown2, hg, hbb⟩; have HO2 := Lib.hid hown2; have HG2 := Lib.hid hg; have HBB := Lib.hid hbb; clear hown2 hg hbb)
        go_roundw
        case rel =>
          refine ⟨k + 1, by omega, by go_num, ?_, (hbel.alloc hsz _).grown HG2.out (by simp; omega) (fun b hb => (HBB.out b hb).1)⟩
          rw [HT2.out]
          show World.ownsRow _ _ _ _ _ _ _
          rw [List.length_append, ← HV0.out, seenCells_append, one_seen]
          exact HO2.out
        case measure => first | (simp [intOf]; done) | (simp [intOf]; omega)
    · obtain rfl : k = L.length := by omega
      go_wp2
      go_ret
      refine ⟨_, rfl, ?_, hbel⟩
      have := HR.out
      rw [List.take_length] at this
      exact this
end Go.Proofs.YtbdadgkjiondgaaDoor.see
