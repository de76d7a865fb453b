/-
  FnLinesStripped: the specification's lines, and the test of a text.
-/
import Derived.Test.YthdlekfnmabldaaDoorStripRunes
namespace Go.Proofs.YthdlekfnmabldaaDoor.fnLinesStripped
open Go.RowKit Go.Proofs.YthdlekfnmabldaaDoor.fnEncodeExact
set_option linter.unusedSimpArgs false
set_option linter.unusedVariables false

theorem readable_any (s : ByteArray) (hz : s.size ≤ 2000) (w : World) :
    Calls Tryd.prog 8 #[.string s] w fun e w' => IsB (fun b => b = true → ∃ L, Upto s s.size L) e ∧ w = w' := by
  go_enter Tryd.func8, Tryd.ntmps8
  go_wp2_with fail
  go_loop [3] (fun i => ∃ (k : Nat) (L : List Nat), i = .int .i64 k ∧ Upto s k L) (fun i => s.size - (intOf i).toNat)
  case atStart => exact ⟨0, [], rfl, .zero⟩
  case round =>
    obtain ⟨k, L, rfl, hup⟩ := hrel
    have hk := hup.le.1
    have HU := Lib.hid hup
    clear hup
    by_cases hlt : k < s.size
    · go_wp2_with fail
      refine (point_any s k hlt hz _).mono ?_
      rintro e w1 ⟨r, n, rfl, hp, rfl⟩
      rcases hp with rfl | hp
      · go_wp2
        go_ret
        exact ⟨⟨_, rfl, fun h => by cases h⟩, rfl⟩
      have hn : ((n : Int) == 0) = false := by have := hp.pos; simp; omega
      have hn2 := hp.fits
      have hn3 := hp.pos
      have HP := Lib.hid hp
      clear hp
      cases hr0 : ((r : Int) == 0)
      · cases hr1 : ((r : Int) == 65279)
        · go_wp2
          go_round
          case rel => exact ⟨k + n, L ++ [r], by go_num, HU.out.step HP.out⟩
          case measure => simp [intOf]; omega
        · go_wp2
          go_ret
          exact ⟨⟨_, rfl, fun h => by cases h⟩, rfl⟩
      · go_wp2
        go_ret
        exact ⟨⟨_, rfl, fun h => by cases h⟩, rfl⟩
    · obtain rfl : k = s.size := by omega
      go_wp2
      go_ret
      exact ⟨⟨_, rfl, fun _ => ⟨L, HU.out⟩⟩, rfl⟩

/-- The lines of bytes, the first of which has begun. -/
def split : List UInt8 → List UInt8 → List (List UInt8)
  | cur, [] => [cur]
  | cur, b :: l => if b = 10 then cur :: split [] l else split (cur ++ [b]) l

/-- Texts as cells. -/
def cells (D : List (List UInt8)) : List Value := D.map fun x => .string ⟨x.toArray⟩

theorem infoString : (Tryd.prog.info? 9).map (fun i => (i.zero, i.size, i.bytes)) = some (some (.string ⟨#[]⟩), 1, 16) := by kernel_rfl

theorem cells_snoc (D : List (List UInt8)) (x : List UInt8) : cells (D ++ [x]) = cells D ++ [.string ⟨x.toArray⟩] := by simp [cells]

set_option maxRecDepth 100000 in
theorem lines_any (s : ByteArray) (hz : s.size ≤ 2000) (w : World) :
    Calls Tryd.prog 6 #[.string s] w fun e w' => ∃ v, e = .returned v ∧ w'.ownsRow w.heap.size 9 1 v (split [] s.data.toList).length (cells (split [] s.data.toList)) ∧ Below w.heap.size w w' := by
  go_enter Tryd.func6, Tryd.ntmps6
  go_wp2_with fail
  go_loopw [3, 4, 5] (fun v fr i wr => ∃ (k f : Nat) (D : List (List UInt8)), f ≤ k ∧ k ≤ s.size ∧ i = .int .i64 k ∧ fr = .int .i64 f ∧ wr.ownsRow w.heap.size 9 1 v D.length (cells D) ∧ Hid (D ++ split ((s.data.toList.take k).drop f) (s.data.toList.drop k) = split [] s.data.toList) ∧ D.length ≤ k ∧ Below w.heap.size w wr) (fun _ _ i _ => s.size - (intOf i).toNat)
  case atStart => exact ⟨0, 0, [], Nat.le_refl _, Nat.zero_le _, rfl, rfl, World.ownsRow_nil _ _ _ _, Lib.hid (by simp), Nat.zero_le _, Below.refl _ _⟩
  case round =>
    obtain ⟨k, f, D, hfk, hk, rfl, rfl, hown, HS, hD, hbel⟩ := hrel
    have hsz := hbel.size
    have HO := Lib.hid hown
    clear hown
    by_cases hlt : k < s.size
    · have hb := byte_lt s k hlt
      have hdrop : s.data.toList.drop k = s.get! k :: s.data.toList.drop (k + 1) := drop_byte hlt
      have hget := get_of hlt (c := s[k].toNat) rfl
      generalize hc : s[k].toNat = c at hb hget
      have HX := Lib.hid (ext_eq s f k)
      have HD := Lib.hid hdrop
      have HG := Lib.hid hget
      have htk : k < s.data.toList.length := by simp; have h2 : s.size = s.data.size := rfl; omega
      have HTK : Hid (s.data.toList.take (k + 1) = s.data.toList.take k ++ [s.get! k]) := Lib.hid (by
        rw [List.take_succ_eq_append_getElem htk]
        congr 2
        have h3 := HD.out
        rw [List.drop_eq_getElem_cons htk] at h3
        exact (List.cons.inj h3).1)
      clear hdrop hget
      cases hq : ((c : Int) == 10)
      · have HS' : Hid (D ++ split ((s.data.toList.take (k + 1)).drop f) (s.data.toList.drop (k + 1)) = split [] s.data.toList) := Lib.hid (by
          rw [← HS.out, HD.out]
          have hne : s.get! k ≠ 10 := by
            intro h
            have h2 := HG.out
            rw [h] at h2
            have : c = 10 := by rw [← h2]; rfl
            subst this
            cases hq
          show _ = D ++ (if s.get! k = 10 then _ else _)
          rw [if_neg hne, HTK.out, List.drop_append_of_le_length (by rw [List.length_take]; omega)])
        go_wp2
        go_roundw
        case rel => exact ⟨k + 1, f, D, by omega, by omega, by go_num, rfl, HO.out, HS', by omega, hbel⟩
        case measure => first | (simp [intOf]; done) | (simp [intOf]; omega)
      · have HS' : Hid ((D ++ [(s.data.toList.take k).drop f]) ++ split ((s.data.toList.take (k + 1)).drop (k + 1)) (s.data.toList.drop (k + 1)) = split [] s.data.toList) := Lib.hid (by
          rw [← HS.out, HD.out]
          have he : s.get! k = 10 := by
            apply UInt8.toNat_inj.1
            rw [HG.out]
            have := eq_of_beq hq
            show c = 10
            omega
          have hnil : (s.data.toList.take (k + 1)).drop (k + 1) = [] := List.drop_eq_nil_of_le (by rw [List.length_take]; omega)
          show _ = D ++ (if s.get! k = 10 then _ else _)
          rw [if_pos he, hnil, List.append_assoc]
          rfl)
        go_wp2_with (at_builtin; refine wpList_append_run rfl (.tmp 16) (.tmp 21) 23 rfl (app1 (wr := wr) (B := w.heap.size) 23 23 9 Tryd.underlying23 infoString rfl HO.out hsz (World.grownBy_alloc _ _ none) (by omega) (by omega) (.string (s.extract f k)) rfl _ _ (cell_at rfl rfl)) ?_; rintro v1 w2 ⟨hown, hg, hb2⟩)
        go_roundw
        case rel => exact ⟨k + 1, k + 1, D ++ [(s.data.toList.take k).drop f], by omega, by omega, by go_num, by go_num, by rw [List.length_append, cells_snoc, ← HX.out]; exact hown, HS', by simp; omega, (hbel.grown (World.grownBy_alloc _ _ none) hsz (fun b hb => by cases hb)).grown hg (by simp; omega) (fun b h => (hb2 b h).1)⟩
        case measure => first | (simp [intOf]; done) | (simp [intOf]; omega)
    · obtain rfl : k = s.size := by omega
      have HX := Lib.hid (ext_eq s f s.size)
      have HL : Hid (D ++ [(s.data.toList.take s.size).drop f] = split [] s.data.toList) := Lib.hid (by
        rw [← HS.out, List.drop_eq_nil_of_le (show s.data.toList.length ≤ s.size by simp)]
        rfl)
      go_wp2_with (at_builtin; refine wpList_append_run rfl (.tmp 25) (.tmp 29) 23 rfl (app1 (wr := wr) (B := w.heap.size) 23 23 9 Tryd.underlying23 infoString rfl HO.out hsz (World.grownBy_alloc _ _ none) (by omega) (by omega) (.string (s.extract f s.size)) rfl _ _ (cell_at rfl rfl)) ?_; rintro v1 w2 ⟨hown, hg, hb2⟩)
      go_ret
      refine ⟨_, rfl, ?_, (hbel.grown (World.grownBy_alloc _ _ none) hsz (fun b hb => by cases hb)).grown hg (by simp; omega) (fun b h => (hb2 b h).1)⟩
      rw [← HL.out, List.length_append, cells_snoc, ← HX.out]
      exact hown
end Go.Proofs.YthdlekfnmabldaaDoor.fnLinesStripped
