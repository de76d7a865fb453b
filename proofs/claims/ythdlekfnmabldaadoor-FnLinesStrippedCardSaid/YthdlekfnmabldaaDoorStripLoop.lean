/-
  FnLinesStripped: the package's lines: what lineSplit computes.
-/
import Derived.Test.YthdlekfnmabldaaDoorStripVal
import Derived.Test.YthdlekfnmabldaaDoorStripBuf
import Derived.Lib.BufferOld
import Derived.BigCall
import Derived.WalkSmall
namespace Go.Proofs.YthdlekfnmabldaaDoor.fnLinesStripped
open Go.RowKit Go.Proofs.YthdlekfnmabldaaDoor.fnEncodeExact
set_option linter.unusedSimpArgs false
set_option linter.unusedVariables false

/-- A line, stripped, as bytes. -/
def strip (m : Nat) (x : List Nat) : List UInt8 := (front ws m x).flatMap enc

theorem own_others {w w' : World} {B b n size : Nat} {e : TypeId} {v : Value} {xs : List Value} (h : w.ownsRow B e size v n xs) (hk : Lib.OthersKept 5 (some b) w w') (he : e ≠ 5) (hb : b < B) : w'.ownsRow B e size v n xs := by
  refine ⟨h.1, ?_⟩
  rcases h.2 with h1 | ⟨g, cap, cur, h1, h2, h3, h4⟩
  · exact .inl h1
  · refine .inr ⟨g, cap, cur, h1, h2, hk g _ h3 (fun e => by have := Option.some.inj e; omega) (fun c fz e2 => ?_), h4⟩
    injection e2 with e3 e4
    exact he e4

/-- What a row that the call owns lies in. -/
theorem own_kind {w : World} {B n size : Nat} {e : TypeId} {v : Value} {xs : List Value} (h : w.ownsRow B e size v n xs) : ∀ g, v.ownBlock = some g → B ≤ g ∧ ∃ c, w.heap[g]? = some (.cells c e (0, 0)) := by
  intro g hg
  rcases h.2 with ⟨rfl, _⟩ | ⟨g', cap, cur, rfl, hb, hgg, _⟩
  · simp [Value.ownBlock] at hg
  · simp [Value.ownBlock] at hg
    subst hg
    exact ⟨hb, cur, hgg⟩

/-- A Buffer stays where a row of others grows. -/
theorem buf_grown {w w' : World} {T e e' : TypeId} {B b : Nat} {bs : List Value} {row : Option Nat} (h : Lib.IsBuffer T e B b bs w) (hg : w.grownBy w' row) (he : e' ≠ e) (hrow : ∀ g, row = some g → g ≠ b ∧ ∃ c, w.heap[g]? = some (.cells c e' (0, 0))) : Lib.IsBuffer T e B b bs w' := by
  have hlt := h.lt
  obtain ⟨hB, v, lr, hbk, hown, hne⟩ := h
  refine ⟨hB, v, lr, (hg.block b hlt (fun hc => (hrow b hc.symm).1 rfl)).trans hbk, hown.kept hg ?_, hne⟩
  cases hv : v.ownBlock with
  | none => exact .inl rfl
  | some g =>
    refine .inr (fun hc => ?_)
    obtain ⟨-, c, h1⟩ := hrow g hc.symm
    obtain ⟨-, c', h2⟩ := own_kind hown g hv
    rw [h1] at h2
    have h3 := Option.some.inj h2
    injection h3 with h4 h5
    exact he h5

theorem iter_grown {w w' : World} {k : Nat} {s : ByteArray} {pos : Nat} {row : Option Nat} (h : w.heap[k]? = some (.stringIter s pos)) (hg : w.grownBy w' row) (hrow : ∀ g, row = some g → g ≠ k) : w'.heap[k]? = some (.stringIter s pos) :=
  (hg.block k (Array.getElem?_eq_some_iff.1 h).1 (fun hc => hrow k hc.symm rfl)).trans h

theorem iter_below {w w' : World} {k : Nat} {s : ByteArray} {pos : Nat} (h : w.heap[k]? = some (.stringIter s pos)) (hb : Below w.heap.size w w') : w'.heap[k]? = some (.stringIter s pos) :=
  (hb.block k (Array.getElem?_eq_some_iff.1 h).1).trans h

theorem string_k (B b : Nat) (l : List UInt8) (w : World) (h : Lib.IsBuffer 36 5 B b (Lib.byteCells l) w) :
    Calls Tryd.prog 14 #[.pointer (some ⟨b, 0, none⟩)] w fun e w' => e = .returned (.string ⟨l.toArray⟩) ∧ Below w.heap.size w w' :=
  (Tryd.Buffer_String B b l w h).mono fun _ _ ⟨h1, n, h2⟩ => ⟨h1, by rw [h2]; exact ⟨rfl, rfl, rfl, Nat.le_refl _, fun _ _ => rfl⟩⟩

/-- The bytes that a Buffer holds of a line so far. -/
def held (cur : List Nat) : List Value := Lib.byteCells (cur.flatMap enc)

theorem held_snoc {s : ByteArray} {i r n : Nat} (hp : Piece s i r n) (cur : List Nat) : held cur ++ Lib.runeCells (r : Int) = held (cur ++ [r]) := by
  rw [rune_cells hp]
  unfold held Lib.byteCells
  rw [List.flatMap_append, List.map_append]
  simp

theorem held_len (cur : List Nat) : (held cur).length = (cur.flatMap enc).length := by simp [held, Lib.byteCells]

theorem size_list (l : List UInt8) : (ByteArray.mk l.toArray).size = l.length := by
  show l.toArray.size = _
  simp

/-- The memory at a round's head: the iterator, the Buffer with the line so far, the lines so far. -/
structure St (w : World) (s : ByteArray) (pos : Nat) (cur : List Nat) (v : Value) (D : List (List UInt8)) (wr : World) : Prop where
  it : wr.heap[w.heap.size + 1]? = some (.stringIter s pos)
  buf : Lib.IsBuffer 36 5 w.heap.size w.heap.size (held cur) wr
  own : wr.ownsRow (w.heap.size + 2) 9 1 v D.length (cells D)
  bel : Below w.heap.size w wr

theorem St.later {w wr W : World} {s : ByteArray} {pos : Nat} {cur : List Nat} {v : Value} {D : List (List UInt8)} (h : St w s pos cur v D wr) (hb : Below wr.heap.size wr W) : St w s pos cur v D W :=
  ⟨iter_below h.it hb, h.buf.old hb, own_below h.own hb, below_step (Nat.le_refl _) h.bel hb⟩

theorem St.lt {w wr : World} {s : ByteArray} {pos : Nat} {cur : List Nat} {v : Value} {D : List (List UInt8)} (h : St w s pos cur v D wr) : w.heap.size + 2 ≤ wr.heap.size := by
  have := (Array.getElem?_eq_some_iff.1 h.it).1
  omega

/-- A line more. -/
theorem St.more {w W3 W4 : World} {s : ByteArray} {pos : Nat} {cur : List Nat} {v v1 : Value} {D : List (List UInt8)} (h : St w s pos cur v D W3) (o : Obj) (x : List UInt8) (hown : W4.ownsRow (w.heap.size + 2) 9 1 v1 (D.length + 1) (cells D ++ [.string ⟨x.toArray⟩])) (hg : (W3.alloc o).grownBy W4 v.ownBlock) :
    St w s pos cur v1 (D ++ [x]) W4 := by
  have h' := h.later (Below.alloc (Below.refl _ _) (Nat.le_refl _) o)
  refine ⟨iter_grown h'.it hg (fun g hg' => ?_), buf_grown h'.buf hg (show (9 : TypeId) ≠ 5 by decide) (fun g hg' => ?_), ?_, h'.bel.grown hg h'.bel.size (fun b hb => ?_)⟩
  · have := (own_kind h'.own g hg').1
    omega
  · obtain ⟨h1, c, h2⟩ := own_kind h'.own g hg'
    exact ⟨by omega, c, h2⟩
  · rw [List.length_append, cells_snoc]
    exact hown
  · have := (own_kind h'.own b hb).1
    omega

/-- A line feed's round. -/
theorem St.reset {w W4 W5 : World} {s : ByteArray} {pos : Nat} {cur : List Nat} {v : Value} {D : List (List UInt8)} (h : St w s pos cur v D W4) (hI : Lib.IsBuffer 36 5 w.heap.size w.heap.size [] W5) (hb : Below w.heap.size W4 W5) (hk : Lib.OthersKept 5 (some w.heap.size) W4 W5) : St w s pos [] v D W5 :=
  ⟨hk.iter h.it (h.buf.ne_iter h.it), hI, own_others h.own hk (by decide) (by omega), h.bel.trans hb⟩

/-- Another round. -/
theorem St.wrote {w W1 W2 : World} {s : ByteArray} {i r n pos : Nat} {cur : List Nat} {v : Value} {D : List (List UInt8)} (hp : Piece s i r n) (h : St w s pos cur v D W1) (hI : Lib.IsBuffer 36 5 w.heap.size w.heap.size (held cur ++ Lib.runeCells (r : Int)) W2) (hb : Below w.heap.size W1 W2) (hk : Lib.OthersKept 5 (some w.heap.size) W1 W2) : St w s pos (cur ++ [r]) v D W2 :=
  ⟨hk.iter h.it (h.buf.ne_iter h.it), by rw [← held_snoc hp]; exact hI, own_others h.own hk (by decide) (by omega), h.bel.trans hb⟩

theorem St.next {w wr : World} {s : ByteArray} {pos : Nat} {cur : List Nat} {v : Value} {D : List (List UInt8)} (h : St w s pos cur v D wr) (q : Nat) : St w s q cur v D (wr.iterAt (w.heap.size + 1) s q) :=
  ⟨Lib.iterAt_heap wr (w.heap.size + 1) s pos q h.it, h.buf.iterAt h.it q, ownsRow_iterAt h.own (k := w.heap.size + 1) (by omega) s q, Lib.below_iterAt h.bel (by omega) s q⟩

set_option maxRecDepth 100000 in
theorem lineSplit_any (s : ByteArray) (L : List Nat) (h : Upto s s.size L) (hz : s.size ≤ 2000) (m : Nat) (hm : m ≤ 1000) (w : World) :
    Calls Tryd.prog 12 #[.string s, .int .i64 m] w fun e w' => ∃ v, e = .returned v ∧ w'.ownsRow w.heap.size 9 1 v (splitN [] L).length (cells ((splitN [] L).map (strip m))) ∧ Below w.heap.size w w' := by
  have HU := Lib.hid h
  clear h
  have hI0 : Lib.IsBuffer 36 5 w.heap.size w.heap.size (held []) ((w.alloc (.cells #[.slice none 0 0, .int .i64 0, .int .i8 0] 36)).iter s 0) := (Lib.fresh_isBuffer 36 5 w).alloc _
  have hk0 : ((w.alloc (.cells #[.slice none 0 0, .int .i64 0, .int .i8 0] 36)).iter s 0).heap[w.heap.size + 1]? = some (.stringIter s 0) := by
    have h5 := World.iter_heap (w.alloc (.cells #[.slice none 0 0, .int .i64 0, .int .i8 0] 36)) s 0
    simpa using h5
  have hb0 : Below w.heap.size w ((w.alloc (.cells #[.slice none 0 0, .int .i64 0, .int .i8 0] 36)).iter s 0) := ((Below.refl _ w).alloc (Nat.le_refl _) _).alloc (by simp) _
  have HS0 : Hid (St w s 0 [] (.slice none 0 0) [] ((w.alloc (.cells #[.slice none 0 0, .int .i64 0, .int .i8 0] 36)).iter s 0)) := Lib.hid ⟨hk0, hI0, World.ownsRow_nil _ _ _ _, hb0⟩
  clear hk0 hI0 hb0
  go_enter Tryd.func12, Tryd.ntmps12
  go_wp2_with fail
  go_loopw [5] (fun v wr => ∃ (L1 L2 cur : List Nat) (D : List (List UInt8)) (pos : Nat), Hid (L = L1 ++ L2) ∧ Hid (pos = (L1.flatMap enc).length) ∧ Hid (St w s pos cur v D wr) ∧ Hid (D ++ (splitN cur L2).map (strip m) = (splitN [] L).map (strip m)) ∧ D.length ≤ pos ∧ Hid (∀ r ∈ cur, Val r) ∧ (cur.flatMap enc).length ≤ pos ∧ pos ≤ s.size)
    (fun _ wr => s.size - wr.iterPos (w.heap.size + 1))
  case atStart => exact ⟨[], L, [], [], 0, Lib.hid rfl, Lib.hid rfl, HS0, Lib.hid rfl, Nat.le_refl _, Lib.hid (fun r hr => by cases hr), Nat.le_refl _, Nat.zero_le _⟩
  case round =>
    obtain ⟨L1, L2, cur, D, pos, HL, HPOS, HST, HS, hD, HV, hcur, hps⟩ := hrel
    clear HS0
    have HUP : Hid (Upto ⟨(cur.flatMap enc).toArray⟩ (ByteArray.mk (cur.flatMap enc).toArray).size cur) := Lib.hid (upto_made cur HV.out)
    have HSZ : Hid ((ByteArray.mk (cur.flatMap enc).toArray).size ≤ 2000) := Lib.hid (by rw [size_list]; omega)
    cases L2 with
    | nil =>
      have hend : ¬ pos < s.size := by
        have := rest_none (s := s) (L1 := L1) (by have := HU.out; rw [HL.out] at this; exact this)
        rw [HPOS.out]
        omega
      have hnext : ∀ ty, (Instr.next (.pointer (some ⟨w.heap.size + 1, 0, none⟩)) true ty).run Tryd.prog wr = _ := fun ty => Lib.run_next_end_at wr (w.heap.size + 1) s pos ty HST.out.it hend
      go_wp2_with fail
      refine (string_k w.heap.size w.heap.size (cur.flatMap enc) wr HST.out.buf).mono ?_
      rintro e W2 ⟨rfl, hb2⟩
      have HST2 := Lib.hid (HST.out.later hb2)
      clear hnext
      go_wp2_with fail
      refine (strip_any _ cur HUP.out HSZ.out m hm W2).mono ?_
      rintro e W3 ⟨rfl, hb3⟩
      have HST3 := Lib.hid (HST2.out.later hb3)
      have hsz3 := HST3.out.lt
      go_wp2_with (at_builtin; refine wpList_append_run rfl (.tmp 25) (.tmp 29) 23 rfl (app1 (wr := W3) (B := w.heap.size + 2) 23 23 9 Tryd.underlying23 infoString rfl HST3.out.own hsz3 (World.grownBy_alloc _ _ none) (by omega) (by omega) (.string ⟨((front ws m cur).flatMap enc).toArray⟩) rfl _ _ (cell_at rfl rfl)) ?_; rintro v1 W4 ⟨hown, hg, -⟩)
      have HST4 := Lib.hid (HST3.out.more _ _ hown hg)
      clear hown hg
      go_ret
      refine ⟨_, rfl, ?_, HST4.out.bel⟩
      have h1 := owns_mono HST4.out.own (show w.heap.size ≤ w.heap.size + 2 by omega)
      have h2 : D ++ [strip m cur] = (splitN [] L).map (strip m) := HS.out
      have h3 : (splitN [] L).length = (D ++ [strip m cur]).length := by rw [h2, List.length_map]
      rw [← h2, h3]
      exact h1
    | cons r L2 =>
      have hup : Upto s s.size (L1 ++ r :: L2) := by have := HU.out; rw [HL.out] at this; exact this
      have hp := next_piece hup
      have hlt : pos < s.size := by have := rest_lt hup; rw [HPOS.out]; exact this
      have hnext : ∀ ty, (Instr.next (.pointer (some ⟨w.heap.size + 1, 0, none⟩)) true ty).run Tryd.prog wr = _ := fun ty => Lib.run_next_any_at wr (w.heap.size + 1) s pos ty HST.out.it hlt
      rw [← HPOS.out] at hp
      rw [hp.dec] at hnext
      have hfit := hp.fits
      have hpos1 := hp.pos
      have hval := piece_val hp
      have hr1 : (-2147483648 : Int) ≤ r := by omega
      have hr2 : (r : Int) ≤ 2147483647 := by unfold Val at hval; omega
      have HP := Lib.hid hp
      have HVR := Lib.hid hval
      clear hup hp hval
      simp only at hnext
      have HN : Hid ((enc r).length = (enc r).length) := Lib.hid rfl
      have HLEN : Hid (((L1 ++ [r]).flatMap enc).length = pos + (enc r).length) := Lib.hid (by
        rw [List.flatMap_append, List.length_append, HPOS.out]
        simp)
      generalize (enc r).length = n at hnext hfit hpos1 HP HLEN
      have HST1 := Lib.hid (HST.out.next (pos + n))
      have hmu : wr.iterPos (w.heap.size + 1) = pos := iterPos_of HST.out.it
      generalize wr.iterAt (w.heap.size + 1) s (pos + n) = W1 at hnext HST1
      have HL' : Hid (L = (L1 ++ [r]) ++ L2) := Lib.hid (by rw [HL.out]; simp)
      cases hq : ((r : Int) == 10)
      · have hne : r ≠ 10 := by
          intro h
          subst h
          cases hq
        have HSN : Hid (D ++ (splitN (cur ++ [r]) L2).map (strip m) = (splitN [] L).map (strip m)) := Lib.hid (by
          have := HS.out
          rw [show splitN cur (r :: L2) = splitN (cur ++ [r]) L2 from if_neg hne] at this
          exact this)
        have HVN : Hid (∀ x ∈ cur ++ [r], Val x) := Lib.hid (fun x hx => by
          rcases List.mem_append.1 hx with h | h
          · exact HV.out x h
          · obtain rfl : x = r := by simpa using h
            exact HVR.out)
        have HLC : Hid (((cur ++ [r]).flatMap enc).length ≤ pos + n) := Lib.hid (by
          have h1 := HP.out.enc
          have h2 : (enc r).length = ((s.data.toList.drop pos).take n).length := by rw [← h1]; rfl
          rw [List.length_take] at h2
          rw [List.flatMap_append, List.length_append]
          simp only [List.flatMap_cons, List.flatMap_nil, List.append_nil]
          omega)
        clear hne
        go_wp2_with fail
        refine (Tryd.Buffer_WriteRune_k w.heap.size w.heap.size (held cur) r hr1 hr2 W1 HST1.out.buf (by have := HST1.out.lt; omega) (Lib.byteCells_one _) (by rw [held_len]; omega)).mono ?_
        rintro e W2 ⟨rfl, hI2, hb2, hk2⟩
        have HST2 := Lib.hid (HST1.out.wrote HP.out hI2 hb2 hk2)
        have hmu2 : W2.iterPos (w.heap.size + 1) = pos + n := iterPos_of HST2.out.it
        clear hI2 hb2 hk2 hnext hq
        go_wp2
        go_roundw
        case rel => exact ⟨L1 ++ [r], L2, cur ++ [r], D, pos + n, HL', Lib.hid HLEN.out.symm, HST2, HSN, by omega, HVN, HLC.out, hfit⟩
        case measure =>
          rw [hmu, hmu2]
          omega
      · have he : r = 10 := by
          have := eq_of_beq hq
          omega
        have HSN : Hid ((D ++ [strip m cur]) ++ (splitN [] L2).map (strip m) = (splitN [] L).map (strip m)) := Lib.hid (by
          have := HS.out
          rw [show splitN cur (r :: L2) = cur :: splitN [] L2 from if_pos he] at this
          rw [List.append_assoc]
          exact this)
        clear he
        go_wp2_with fail
        refine (string_k w.heap.size w.heap.size (cur.flatMap enc) W1 HST1.out.buf).mono ?_
        rintro e W2 ⟨rfl, hb2⟩
        have HST2 := Lib.hid (HST1.out.later hb2)
        clear hnext
        go_wp2_with fail
        refine (strip_any _ cur HUP.out HSZ.out m hm W2).mono ?_
        rintro e W3 ⟨rfl, hb3⟩
        have HST3 := Lib.hid (HST2.out.later hb3)
        have hsz3 := HST3.out.lt
        go_wp2_with (at_builtin; refine wpList_append_run rfl (.tmp 16) (.tmp 20) 23 rfl (app1 (wr := W3) (B := w.heap.size + 2) 23 23 9 Tryd.underlying23 infoString rfl HST3.out.own hsz3 (World.grownBy_alloc _ _ none) (by omega) (by omega) (.string ⟨((front ws m cur).flatMap enc).toArray⟩) rfl _ _ (cell_at rfl rfl)) ?_; rintro v1 W4 ⟨hown, hg, -⟩)
        have HST4 := Lib.hid (HST3.out.more _ _ hown hg)
        clear hown hg
        refine (Tryd.Buffer_Reset_k w.heap.size w.heap.size _ W4 HST4.out.buf).mono ?_
        rintro e W5 ⟨rfl, hI5, hb5, hk5⟩
        have HST5 := Lib.hid (HST4.out.reset hI5 hb5 hk5)
        have hmu2 : W5.iterPos (w.heap.size + 1) = pos + n := iterPos_of HST5.out.it
        clear hI5 hb5 hk5 hq
        go_wp2
        go_roundw
        case rel => exact ⟨L1 ++ [r], L2, [], D ++ [strip m cur], pos + n, HL', Lib.hid HLEN.out.symm, HST5, HSN, by rw [List.length_append, List.length_singleton]; omega, Lib.hid (fun x hx => by cases hx), Nat.zero_le _, hfit⟩
        case measure =>
          rw [hmu, hmu2]
          omega
end Go.Proofs.YthdlekfnmabldaaDoor.fnLinesStripped
