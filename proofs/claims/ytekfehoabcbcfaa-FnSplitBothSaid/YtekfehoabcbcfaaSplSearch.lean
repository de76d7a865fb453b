/-
  FnSplitBoth: the package's plain searches: an index, a count, a split.
-/
import Derived.Test.YtekfehoabcbcfaaSplUnits
import Derived.Test.YtekfehoabcbcfaaSeq
namespace Go.Proofs.Ytekfehoabcbcfaa.fnSplitBoth
open Go.RowKit Go.Proofs.Ytekfehoabcbcfaa.fnEncodeExact Go.Proofs.Ytekfehoabcbcfaa.pts
set_option linter.unusedSimpArgs false
set_option linter.unusedVariables false

theorem ext_eq (s : ByteArray) (f k : Nat) : s.extract f k = ⟨((s.data.toList.take k).drop f).toArray⟩ := by
  apply ByteArray.ext
  apply Array.toList_inj.1
  simp [List.drop_take]

theorem ext_at (s c : ByteArray) (i : Nat) (h : i + c.size ≤ s.size) : s.extract i (i + c.size) = c ↔ At c.data.toList s.data.toList i := by
  unfold At
  rw [List.prefix_iff_eq_take, ext_eq]
  have hl : c.data.toList.length = c.size := by simp
  rw [List.drop_take, Nat.add_sub_cancel_left, hl]
  constructor
  · intro h1
    have h2 := congrArg (fun x => ByteArray.data x) h1
    have h3 := congrArg Array.toList h2
    simpa using h3.symm
  · intro h1
    apply ByteArray.ext
    apply Array.toList_inj.1
    rw [← h1]

/-- What an index tells. -/
def Told1 (s c : ByteArray) (w : World) (e : Ending) (w' : World) : Prop :=
  ((e = .returned (.int .i64 (-1)) ∧ ∀ i, i + c.size ≤ s.size → ¬ At c.data.toList s.data.toList i) ∨ ∃ i : Nat, e = .returned (.int .i64 i) ∧ i + c.size ≤ s.size ∧ At c.data.toList s.data.toList i ∧ ∀ j, j < i → ¬ At c.data.toList s.data.toList j) ∧ w = w'

set_option maxRecDepth 100000 in
theorem index_any (s c : ByteArray) (hs : s.size ≤ 2000) (hc : c.size ≤ 2000) (w : World) :
    Calls Try.prog 35 #[.string s, .string c] w (Told1 s c w) := by
  go_enter Try.func35, Try.ntmps35
  go_wp2_with fail
  go_loop [5] (fun i => ∃ k : Nat, k ≤ s.size + 1 ∧ i = .int .i64 k ∧ Hid (∀ j, j < k → ¬ At c.data.toList s.data.toList j)) (fun i => s.size + 1 - (intOf i).toNat)
  case atStart => exact ⟨0, Nat.zero_le _, rfl, Lib.hid (fun j h => absurd h (by omega))⟩
  case round =>
    obtain ⟨k, hk, rfl, HR⟩ := hrel
    by_cases hlt : k + c.size ≤ s.size
    · have HX := Lib.hid (ext_at s c k hlt)
      have hk1 : ((k : Int) + (c.size : Int)).toNat = k + c.size := by omega
      by_cases heq : s.extract k (k + c.size) = c
      · have h1 := seq_true heq
        have HA := Lib.hid (HX.out.1 heq)
        clear heq
        go_wp2
        go_ret
        exact ⟨.inr ⟨k, rfl, hlt, HA.out, HR.out⟩, rfl⟩
      · have h1 := seq_false heq
        have HA := Lib.hid (fun h => heq (HX.out.2 h))
        clear heq
        have HR' : Hid (∀ j, j < k + 1 → ¬ At c.data.toList s.data.toList j) := Lib.hid (fun j hj => by
          by_cases hj2 : j = k
          · subst hj2; exact HA.out
          · exact HR.out j (by omega))
        go_wp2
        go_round
        case rel => exact ⟨k + 1, by omega, by go_num, HR'⟩
        case measure => first | (simp [intOf]; done) | (simp [intOf]; omega)
    · go_wp2
      go_ret
      exact ⟨.inl ⟨rfl, fun i hi => HR.out i (by omega)⟩, rfl⟩

/-- How many parts with a separator behind them. -/
def Counted (s c : ByteArray) (w : World) (e : Ending) (w' : World) : Prop :=
  (∃ (D : List (List UInt8)) (R : List UInt8), e = .returned (.int .i64 D.length) ∧ (∀ x ∈ D, First c.data.toList x) ∧ Free c.data.toList R ∧ glue c.data.toList D ++ R = s.data.toList ∧ D.length ≤ s.size) ∧ w = w'

theorem len_list (s : ByteArray) : s.data.toList.length = s.size := by simp

theorem ne_of_size {c : ByteArray} (h : 1 ≤ c.size) : c.data.toList ≠ [] := by
  intro h1
  have h2 : c.data.toList.length = 0 := by rw [h1]; rfl
  rw [len_list] at h2
  omega

theorem glue_len (C : List UInt8) (D : List (List UInt8)) (h : 1 ≤ C.length) : D.length ≤ (glue C D).length := by
  induction D with
  | nil => exact Nat.le_refl _
  | cons x D ih => rw [glue_cons, List.length_append, List.length_append, List.length_cons]; omega

/-- One part more. -/
theorem count_step {S C : List UInt8} {D : List (List UInt8)} {k f : Nat} (hf : f ≤ k) (hk : k + C.length ≤ S.length) (h1 : glue C D = S.take f) (h2 : ∀ j, f ≤ j → j < k → ¬ At C S j) (h3 : At C S k) :
    First C ((S.take k).drop f) ∧ glue C (D ++ [(S.take k).drop f]) = S.take (k + C.length) := by
  have hx : S.take k = S.take f ++ (S.take k).drop f := by
    have h4 := List.take_append_drop f (S.take k)
    rw [List.take_take, Nat.min_eq_left hf] at h4
    exact h4.symm
  have hc : S.take (k + C.length) = S.take k ++ C := by
    rw [List.take_add]
    congr 1
    exact (List.prefix_iff_eq_take.1 h3).symm
  refine ⟨fun i hi hat => ?_, ?_⟩
  · have hlen : ((S.take k).drop f).length = k - f := by rw [List.length_drop, List.length_take]; omega
    rw [hlen] at hi
    refine h2 (f + i) (by omega) (by omega) ?_
    have e1 : S.drop f = (S.take k).drop f ++ C ++ S.drop (k + C.length) := by
      have h5 : S = S.take f ++ ((S.take k).drop f ++ C ++ S.drop (k + C.length)) := by
        rw [← List.append_assoc, ← List.append_assoc, ← hx, ← hc, List.take_append_drop]
      have h6 : (S.take f).length = f := by rw [List.length_take]; omega
      have h7 := congrArg (List.drop f) h5
      rw [List.drop_append_of_le_length (by omega), List.drop_of_length_le (show (S.take f).length ≤ f by omega), List.nil_append] at h7
      exact h7
    unfold At
    rw [← List.drop_drop, e1]
    exact at_more hat (by rw [List.length_append]; omega)
  · rw [glue_snoc, h1, hc, ← List.append_assoc, ← hx]

theorem count_end {S C : List UInt8} {f k : Nat} (hC : C ≠ []) (hf : f ≤ k) (h2 : ∀ j, f ≤ j → j < k → ¬ At C S j) (hk : S.length < k + C.length) : Free C (S.drop f) := by
  intro i hi
  have hi2 := at_len hi hC
  have h3 : At C S (f + i) := by
    unfold At at hi ⊢
    rw [← List.drop_drop]
    exact hi
  have h4 := at_len h3 hC
  exact h2 (f + i) (by omega) (by omega) h3

set_option maxRecDepth 100000 in
theorem count_any (s c : ByteArray) (hs : s.size ≤ 2000) (hc0 : 1 ≤ c.size) (hc : c.size ≤ 2000) (w : World) :
    Calls Try.prog 28 #[.string s, .string c] w (Counted s c w) := by
  have hne : Hid (c.data.toList ≠ []) := Lib.hid (ne_of_size hc0)
  have hq : ((c.size : Int) == 0) = false := by rw [beq_eq_false_iff_ne]; omega
  go_enter Try.func28, Try.ntmps28
  go_wp2_with fail
  go_loop [5, 6] (fun n i => ∃ (k f : Nat) (D : List (List UInt8)), f ≤ k ∧ k ≤ s.size + 1 ∧ f ≤ s.size ∧ i = .int .i64 k ∧ n = .int .i64 D.length ∧ D.length ≤ f ∧ Hid (glue c.data.toList D = s.data.toList.take f) ∧ Hid (∀ j, f ≤ j → j < k → ¬ At c.data.toList s.data.toList j) ∧ Hid (∀ x ∈ D, First c.data.toList x)) (fun _ i => s.size + 1 - (intOf i).toNat)
  case atStart => exact ⟨0, 0, [], Nat.le_refl _, Nat.zero_le _, Nat.zero_le _, rfl, rfl, Nat.le_refl _, Lib.hid (by simp [glue]), Lib.hid (fun j h1 h2 => absurd h2 (by omega)), Lib.hid (fun x hx => by cases hx)⟩
  case round =>
    obtain ⟨k, f, D, hfk, hk, hfs, rfl, rfl, hD, HG, HR, HF⟩ := hrel
    by_cases hlt : k + c.size ≤ s.size
    · have HX := Lib.hid (ext_at s c k hlt)
      have hk1 : ((k : Int) + (c.size : Int)).toNat = k + c.size := by omega
      by_cases heq : s.extract k (k + c.size) = c
      · have h1 := seq_true heq
        have HA := Lib.hid (HX.out.1 heq)
        have HS := Lib.hid (count_step (S := s.data.toList) (C := c.data.toList) (D := D) hfk (by rw [len_list, len_list]; exact hlt) HG.out HR.out HA.out)
        clear heq
        go_wp2
        go_round
        case rel =>
          refine ⟨k + c.size, k + c.size, D ++ [(s.data.toList.take k).drop f], Nat.le_refl _, by omega, by omega, by go_num, ?_, by rw [List.length_append, List.length_singleton]; omega, Lib.hid ?_, Lib.hid (fun j h1 h2 => by omega), Lib.hid (fun x hx => ?_)⟩
          · rw [List.length_append, List.length_singleton]; go_num
          · have := HS.out.2
            rw [len_list] at this
            exact this
          · rcases List.mem_append.1 hx with h | h
            · exact HF.out x h
            · obtain rfl : x = _ := by simpa using h
              exact HS.out.1
        case measure => first | (simp [intOf]; done) | (simp [intOf]; omega)
      · have h1 := seq_false heq
        have HA := Lib.hid (fun h => heq (HX.out.2 h))
        clear heq
        have HR' : Hid (∀ j, f ≤ j → j < k + 1 → ¬ At c.data.toList s.data.toList j) := Lib.hid (fun j hj1 hj => by
          by_cases hj2 : j = k
          · subst hj2; exact HA.out
          · exact HR.out j hj1 (by omega))
        go_wp2
        go_round
        case rel => exact ⟨k + 1, f, D, by omega, by omega, hfs, by go_num, rfl, hD, HG, HR', HF⟩
        case measure => first | (simp [intOf]; done) | (simp [intOf]; omega)
    · have HE := Lib.hid (count_end (S := s.data.toList) (C := c.data.toList) hne.out hfk HR.out (by rw [len_list, len_list]; omega))
      go_wp2
      go_ret
      refine ⟨⟨D, _, rfl, HF.out, HE.out, ?_, by omega⟩, rfl⟩
      rw [HG.out, List.take_append_drop]

theorem infoString : (Try.prog.info? 9).map (fun i => (i.zero, i.size, i.bytes)) = some (some (.string ⟨#[]⟩), 1, 16) := by kernel_rfl

/-- Texts as cells. -/
def cells (D : List (List UInt8)) : List Value := D.map fun x => .string ⟨x.toArray⟩

theorem cells_snoc (D : List (List UInt8)) (x : List UInt8) : cells (D ++ [x]) = cells D ++ [.string ⟨x.toArray⟩] := by simp [cells]

/-- The parts. -/
def Parts (s c : ByteArray) (D : List (List UInt8)) (R : List UInt8) : Prop := (∀ x ∈ D, First c.data.toList x) ∧ Free c.data.toList R ∧ glue c.data.toList D ++ R = s.data.toList

theorem mk_list (s : ByteArray) : (⟨s.data.toList.toArray⟩ : ByteArray) = s := by
  apply ByteArray.ext
  apply Array.toList_inj.1
  rfl

theorem ext_tail (s : ByteArray) (k : Nat) : (s.extract k s.size).data.toList = s.data.toList.drop k := by
  rw [ext_eq]
  show (s.data.toList.take s.size).drop k = _
  rw [List.take_of_length_le (by rw [len_list]; exact Nat.le_refl _)]

theorem ext_size (s : ByteArray) (k : Nat) : (s.extract k s.size).size = s.size - k := by simp

/-- A part more. -/
theorem part_step {t C : List UInt8} {i : Nat} (hi : i + C.length ≤ t.length) (hat : At C t i) (hbef : ∀ j, j < i → ¬ At C t j) : First C ((t.take i).drop 0) ∧ (t.take i).drop 0 ++ (C ++ t.drop (i + C.length)) = t := by
  rw [List.drop_zero]
  have h1 : t.drop i = C ++ t.drop (i + C.length) := by
    have h2 := List.prefix_iff_eq_take.1 hat
    have h3 := List.take_append_drop C.length (t.drop i)
    rw [← h2, List.drop_drop] at h3
    exact h3.symm
  have h4 : t.take i ++ (C ++ t.drop (i + C.length)) = t := by rw [← h1, List.take_append_drop]
  refine ⟨first_of (R := t.drop (i + C.length)) (fun j hj => ?_), h4⟩
  rw [h4]
  rw [List.length_take] at hj
  exact hbef j (by omega)

set_option maxRecDepth 100000 in
theorem splitN_any (s c : ByteArray) (hs : s.size ≤ 2000) (hc0 : 1 ≤ c.size) (hc : c.size ≤ 2000) (w : World) :
    Calls Try.prog 23 #[.string s, .string c, .int .i64 (-1)] w
    fun e w' => ∃ v D R, e = .returned v ∧ Parts s c D R ∧ w'.ownsRow w.heap.size 9 1 v (D ++ [R]).length (cells (D ++ [R])) ∧ Below w.heap.size w w' := by
  have hne : Hid (c.data.toList ≠ []) := Lib.hid (ne_of_size hc0)
  go_enter Try.func23, Try.ntmps23
  go_wp2_with fail
  go_loopw [0, 7] (fun x v wr => ∃ (t : ByteArray) (D : List (List UInt8)), x = .string t ∧ t.size ≤ s.size ∧ D.length + t.size ≤ s.size ∧ Hid (wr.ownsRow w.heap.size 9 1 v D.length (cells D)) ∧ Hid (glue c.data.toList D ++ t.data.toList = s.data.toList) ∧ Hid (∀ y ∈ D, First c.data.toList y) ∧ Below w.heap.size w wr) (fun x _ _ => match x with | .string t => t.size | _ => 0)
  case atStart => exact ⟨s, [], rfl, Nat.le_refl _, by simp, Lib.hid (World.ownsRow_nil _ _ _ _), Lib.hid (by simp [glue]), Lib.hid (fun x hx => by cases hx), Below.refl _ _⟩
  case round =>
    obtain ⟨t, D, rfl, hts, hDt, HO, HG, HF, hbel⟩ := hrel
    have hsz := hbel.size
    go_wp2_with fail
    refine (index_any t c (by omega) hc _).mono ?_
    rintro e w1 ⟨⟨rfl, hno⟩ | ⟨i, rfl, hi, hat, hbef⟩, rfl⟩
    · have HN := Lib.hid (free_of (C := c.data.toList) (S := t.data.toList) hne.out (by rw [len_list, len_list]; exact hno))
      clear hno
      go_wp2_with (at_builtin; refine wpList_append_run rfl (.tmp 35) (.tmp 37) 26 rfl (app1 (wr := wr) (B := w.heap.size) 26 26 9 Try.underlying26 infoString rfl HO.out hsz (World.grownBy_alloc _ _ none) (by omega) (by omega) (.string t) rfl _ _ (cell_at rfl rfl)) ?_; rintro v1 w2 ⟨hown, hg, hb2⟩)
      go_ret
      refine ⟨_, D, t.data.toList, rfl, ⟨HF.out, HN.out, HG.out⟩, ?_, (hbel.grown (World.grownBy_alloc _ _ none) hsz (fun b hb => by cases hb)).grown hg (by simp; omega) (fun b h => (hb2 b h).1)⟩
      rw [List.length_append, cells_snoc, mk_list]
      exact hown
    · have HSP := Lib.hid (part_step (C := c.data.toList) (t := t.data.toList) (i := i) (by rw [len_list, len_list]; exact hi) hat hbef)
      have HX1 := Lib.hid (ext_eq t 0 i)
      have HX2 := Lib.hid (ext_tail t (i + c.size))
      have hk1 : ((i : Int) + (c.size : Int)).toNat = i + c.size := by omega
      have hi0 : (0 : Int) ≤ i := by omega
      clear hat hbef
      go_wp2_with (at_builtin; refine wpList_append_run rfl (.tmp 23) (.tmp 27) 26 rfl (app1 (wr := wr) (B := w.heap.size) 26 26 9 Try.underlying26 infoString rfl HO.out hsz (World.grownBy_alloc _ _ none) (by omega) (by omega) (.string (t.extract 0 i)) rfl _ _ (cell_at rfl rfl)) ?_; rintro v1 w2 ⟨hown, hg, hb2⟩)
      go_roundw
      case rel =>
        refine ⟨t.extract (i + c.size) t.size, D ++ [(t.data.toList.take i).drop 0], rfl, ?_, ?_, Lib.hid ?_, Lib.hid ?_, Lib.hid (fun y hy => ?_), (hbel.grown (World.grownBy_alloc _ _ none) hsz (fun b hb => by cases hb)).grown hg (by simp; omega) (fun b h => (hb2 b h).1)⟩
        · rw [ext_size]; omega
        · rw [ext_size, List.length_append, List.length_singleton]; omega
        · rw [List.length_append, cells_snoc, ← ext_eq]
          exact hown
        · have h1 := HSP.out.2
          rw [len_list] at h1
          rw [glue_snoc, ext_tail, List.append_assoc, List.append_assoc, h1]
          exact HG.out
        · rcases List.mem_append.1 hy with h | h
          · exact HF.out y h
          · obtain rfl : y = _ := by simpa using h
            exact HSP.out.1
      case measure =>
        show (t.extract (i + c.size) t.size).size < t.size
        rw [ext_size]
        omega
end Go.Proofs.Ytekfehoabcbcfaa.fnSplitBoth
