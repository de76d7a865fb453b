/-
  FnSplitBoth: std.splitLimit.
-/
import Derived.Test.YtekfehoabcbcfaaSplDoor
import Derived.BigCall
namespace Go.Proofs.Ytekfehoabcbcfaa.fnSplitBoth
open Go.RowKit Go.Proofs.Ytekfehoabcbcfaa.fnEncodeExact Go.Proofs.Ytekfehoabcbcfaa.pts
set_option linter.unusedSimpArgs false
set_option linter.unusedVariables false

/-- Pointers to thunks, the first k of n laid. -/
def mix (V : Nat → Nat) (k n : Nat) : List Value := (List.range n).map fun j => if j < k then .pointer (some ⟨V j, 0, none⟩) else .pointer none

theorem mix_none (V : Nat → Nat) (n : Nat) : (madeCells (Value.pointer none).cells (n * 1)).toList = mix V 0 n := by
  rw [Nat.mul_one, show (Value.pointer none).cells = #[Value.pointer none] from rfl, toList_madeCells_one]
  apply List.ext_getElem
  · simp [mix]
  · intro j h1 h2
    simp [mix]

theorem mix_set (V : Nat → Nat) (k n p : Nat) : (mix V k n).set k (.pointer (some ⟨p, 0, none⟩)) = mix (fun j => if j = k then p else V j) (k + 1) n := by
  apply List.ext_getElem
  · simp [mix]
  · intro j h1 h2
    rw [List.getElem_set]
    simp only [mix, List.getElem_map, List.getElem_range]
    by_cases hj : k = j
    · subst hj
      simp
    · rw [if_neg hj]
      by_cases hlt : j < k
      · rw [if_pos hlt, if_pos (show j < k + 1 by omega), if_neg (show ¬ j = k by omega)]
      · rw [if_neg hlt, if_neg (show ¬ j < k + 1 by omega)]

theorem mix_at (V : Nat → Nat) (k n j : Nat) (hj : j < n) : (mix V k n)[j]? = some (if j < k then .pointer (some ⟨V j, 0, none⟩) else .pointer none) := by
  unfold mix
  rw [List.getElem?_map, List.getElem?_range hj]
  rfl

/-- The memory while the thunks are laid: the row of pointers, the thunks, the strings. -/
structure Rs (b0 B gS capS : Nat) (Ms : List (List Nat)) (V : Nat → Nat) (k : Nat) (wr : World) : Prop where
  row : wr.ownsRow B 75 1 (.slice (some ⟨B, 0, none⟩) Ms.length Ms.length) Ms.length (mix V k Ms.length)
  th : ∀ j (h : j < Ms.length), j < k → ThunkIn (B + 1) wr (V j) Ms[j]
  strs : wr.ownsRow b0 9 1 (.slice (some ⟨gS, 0, none⟩) Ms.length capS) Ms.length (cells (bytesOf Ms))
  lt : gS < B ∧ B < wr.heap.size

/-- The world behind a round. -/
def roundWorld (w3 : World) (B k b : Nat) : World := (w3.alloc (.cells #[.pointer none, .nilIface, .iface 97 (.pointer (some ⟨b, 0, none⟩)), .nilIface] 82)).setCell ⟨B, k, none⟩ (.pointer (some ⟨w3.heap.size, 0, none⟩))

theorem Rs.next {b0 B gS capS k b : Nat} {Ms : List (List Nat)} {V : Nat → Nat} {wr w3 : World} (h : Rs b0 B gS capS Ms V k wr) (hk : k < Ms.length) (hb : Below wr.heap.size wr w3) (hs : StrIn wr.heap.size w3 b Ms[k]) :
    Rs b0 B gS capS Ms (fun j => if j = k then w3.heap.size else V j) (k + 1) (roundWorld w3 B k b) := by
  obtain ⟨h1, h2, h3, h4, h5⟩ := h
  have hz := hb.size
  have hb' : Below w3.heap.size w3 (w3.alloc (.cells #[.pointer none, .nilIface, .iface 97 (.pointer (some ⟨b, 0, none⟩)), .nilIface] 82)) := Below.alloc (Below.refl _ _) (Nat.le_refl _) _
  have hrow := ((own_below h1 hb).alloc (.cells #[.pointer none, .nilIface, .iface 97 (.pointer (some ⟨b, 0, none⟩)), .nilIface] 82)).stored k (.pointer (some ⟨w3.heap.size, 0, none⟩))
  obtain ⟨r1, r2⟩ := hrow
  refine ⟨?_, fun j hj hjk => ?_, ?_, h4, ?_⟩
  · rw [mix_set] at r1
    exact r1
  · by_cases hj2 : j = k
    · subst hj2
      simp only [if_true]
      refine ThunkIn.grown ?_ r2 (by omega)
      exact ⟨b, by omega, cell_at rfl rfl, (hs.mono (by omega)).below hb'⟩
    · simp only [if_neg hj2]
      refine ThunkIn.grown ?_ r2 (by omega)
      exact ((h2 j hj (by omega)).below hb).below hb'
  · exact ((own_below h3 hb).alloc _).kept r2 (.inr (fun hc => by simp [Value.ownBlock] at hc; omega))
  · show B < ((w3.alloc _).setCell _ _).heap.size
    have := r2.size
    simp at this ⊢
    omega

theorem cells_at (D : List (List UInt8)) (k : Nat) (h : k < D.length) : (cells D)[k]? = some (.string ⟨D[k].toArray⟩) := by
  unfold cells
  rw [List.getElem?_map, List.getElem?_eq_getElem h]
  rfl

theorem bytesOf_len (Ms : List (List Nat)) : (bytesOf Ms).length = Ms.length := by simp [bytesOf]

theorem Rs.str {b0 B gS capS k : Nat} {Ms : List (List Nat)} {V : Nat → Nat} {wr : World} (h : Rs b0 B gS capS Ms V k wr) (hk : k < Ms.length) : wr.cell? ⟨gS, k, none⟩ = some (.string ⟨(Ms[k].flatMap enc).toArray⟩) := by
  have h1 := own_cell h.strs rfl hk (cells_at (bytesOf Ms) k (by rw [bytesOf_len]; exact hk))
  rw [h1]
  simp [bytesOf]

theorem Rs.slot {b0 B gS capS k : Nat} {Ms : List (List Nat)} {V : Nat → Nat} {wr : World} (h : Rs b0 B gS capS Ms V k wr) (hk : k < Ms.length) : wr.cell? ⟨B, k, none⟩ = some (.pointer none) := by
  have h1 := own_cell h.row rfl hk (mix_at V k Ms.length k hk)
  rw [h1, if_neg (Nat.lt_irrefl _)]

theorem Rs.arr {b0 B gS capS : Nat} {Ms : List (List Nat)} {V : Nat → Nat} {wr : World} (h : Rs b0 B gS capS Ms V Ms.length wr) :
    ArrIn (wr.alloc (.cells #[.slice (some ⟨B, 0, none⟩) Ms.length Ms.length] 73)) wr.heap.size Ms := by
  have hb' : Below wr.heap.size wr (wr.alloc (.cells #[.slice (some ⟨B, 0, none⟩) Ms.length Ms.length] 73)) := Below.alloc (Below.refl _ _) (Nat.le_refl _) _
  refine ⟨B, Ms.length, V, cell_at rfl rfl, fun j hj => cell_later hb' ?_, fun j hj => ?_⟩
  · have h1 := own_cell h.row rfl hj (mix_at V Ms.length Ms.length j hj)
    rw [h1, if_pos hj]
  · obtain ⟨q, -, a, b⟩ := (h.th j hj hj).below hb'
    exact ⟨q, Nat.zero_le _, a, b.mono (Nat.zero_le _)⟩

theorem glue_part (C : List UInt8) (x : List UInt8) : ∀ D : List (List UInt8), x ∈ D → x.length ≤ (glue C D).length := by
  intro D
  induction D with
  | nil => intro hx; cases hx
  | cons y D ih =>
    intro hx
    rw [glue_cons, List.length_append, List.length_append]
    rcases List.mem_cons.1 hx with rfl | hx
    · omega
    · have := ih hx
      omega

/-- The parts' sizes. -/
theorem part_size {s c : ByteArray} {D : List (List UInt8)} {R : List UInt8} (h : glue c.data.toList D ++ R = s.data.toList) (hc : 1 ≤ c.size) : D.length + R.length ≤ s.size ∧ ∀ x ∈ D ++ [R], x.length ≤ s.size := by
  have h1 := congrArg List.length h
  rw [List.length_append, len_list] at h1
  have h2 := glue_len c.data.toList D (by rw [len_list]; exact hc)
  refine ⟨by omega, fun x hx => ?_⟩
  rcases List.mem_append.1 hx with hx | hx
  · have := glue_part c.data.toList x D hx
    omega
  · obtain rfl : x = R := by simpa using hx
    omega

theorem points_ne {c : ByteArray} {U : List Nat} (hU : Upto c c.size U) (hc0 : 1 ≤ c.size) : U ≠ [] := by
  rintro rfl
  have h0 : c.data.toList.length = 0 := by rw [upto_rest hU]; rfl
  rw [len_list] at h0
  omega

set_option maxRecDepth 100000 in
theorem left_any (s c : ByteArray) (L U : List Nat) (hL : Upto s s.size L) (hU : Upto c c.size U) (hs : s.size ≤ 2000) (hc : c.size ≤ 2000) (hc0 : 1 ≤ c.size) (i b1 b2 q : Nat) (w : World) (h1 : StrIn 0 w b1 L) (h2 : StrIn 0 w b2 U) (h3 : w.cell? ⟨q, 0, none⟩ = some (.float .f64 13830554455654793216)) :
    Calls Try.prog 16 #[.pointer (some ⟨i, 0, none⟩), .iface 97 (.pointer (some ⟨b1, 0, none⟩)), .iface 97 (.pointer (some ⟨b2, 0, none⟩)), .iface 93 (.pointer (some ⟨q, 0, none⟩))] w
    fun e w' => ∃ p D R Ms, e = .returned (.tuple #[.iface 74 (.pointer (some ⟨p, 0, none⟩)), .nilIface]) ∧ Parts s c D R ∧ D ++ [R] = bytesOf Ms ∧ (∀ M ∈ Ms, ∀ r ∈ M, Val r) ∧ ArrIn w' p Ms ∧ Below w.heap.size w w' := by
  have HLU := Lib.hid hL
  have HUU := Lib.hid hU
  have H1 := Lib.hid h1
  have H2 := Lib.hid h2
  have H3 := Lib.hid h3
  clear hL hU h1 h2 h3
  go_enter Try.func16, Try.ntmps16
  go_wp2_with fail
  refine (getString_any _ _ _).mono ?_
  rintro e w1 ⟨rfl, rfl⟩
  go_wp2_with fail
  refine (getString_any _ _ _).mono ?_
  rintro e w1 ⟨rfl, rfl⟩
  go_wp2_with fail
  refine (getInt_any _ q _ _ (.inl ⟨rfl, rfl⟩) _ H3.out).mono ?_
  rintro e w1 ⟨rfl, rfl⟩
  go_wp2_with fail
  refine (getGo_any b1 s L HLU.out _ H1.out).mono ?_
  rintro e w1 ⟨rfl, rfl⟩
  go_wp2_with fail
  refine (getGo_any b2 c U HUU.out _ H2.out).mono ?_
  rintro e w1 ⟨rfl, rfl⟩
  go_wp2_with fail
  refine (splitN_any s c hs hc0 hc _).mono ?_
  rintro e w2 ⟨v, D, R, rfl, hparts, hown, hb2⟩
  have hne := points_ne HUU.out hc0
  have hpv := parts_val hne (upto_val HUU.out) D R L (upto_val HLU.out) (by rw [← upto_rest HUU.out, ← upto_rest HLU.out]; exact hparts.2.2)
  obtain ⟨Ms, hMs, hMv⟩ := parts_points hpv
  obtain ⟨hsz1, hsz2⟩ := part_size hparts.2.2 hc0
  have hlen : Ms.length = D.length + 1 := by rw [← bytesOf_len, ← hMs]; simp
  have HEL : Hid (∀ k (h : k < Ms.length), (Ms[k].flatMap enc).length ≤ 2000) := Lib.hid (fun k hk => by
    have := hsz2 (Ms[k].flatMap enc) (by rw [hMs]; unfold bytesOf; exact List.mem_map.2 ⟨_, List.getElem_mem hk, rfl⟩)
    omega)
  have hml : Ms.length ≤ 2001 := by omega
  have hml0 : 0 < Ms.length := by omega
  rw [hMs, bytesOf_len] at hown
  have HP := Lib.hid hparts
  have HMS := Lib.hid hMs
  have HMV := Lib.hid hMv
  clear hparts hMs hMv hpv hsz2 hlen hsz1 hne
  rcases own_form hown with ⟨-, h0⟩ | ⟨gS, capS, rfl, hg1, hg2, hg3, hg4⟩
  · omega
  have HO := Lib.hid hown
  clear hown
  obtain ⟨i0, hi, hz0, hz1, hz2⟩ := info_parts infoThunkP
  go_wp2_with (at_make; refine wpList_make_full _ rfl _ _ 71 rfl w2.heap.size 75 i0 (.pointer none) 1 Try.underlying71 hi hz0 hz1 _ _ _ _ Ms.length rfl rfl rfl rfl (by rw [hz2]; omega) (by unfold maxLen; omega) (Nat.le_refl _) ?_; intro w3 hown3 hg)
  have hb3 : Below w2.heap.size w2 w3 := (Below.refl _ _).grown hg (Nat.le_refl _) (fun b hb => by cases hb)
  have hlt3 := (hown3.lt _ rfl).2
  have HR0 : Hid (Rs w.heap.size w2.heap.size gS capS Ms (fun _ => 0) 0 w3) := Lib.hid ⟨by rw [← mix_none (fun _ => 0)]; exact hown3, fun j h h' => absurd h' (by omega), own_below HO.out hb3, hg2, hlt3⟩
  have hb4 := below_step (Nat.le_refl _) hb2 hb3
  generalize hB : w2.heap.size = B at *
  clear hown3 hg HO
  go_wp2_with fail
  go_loopw [74] (fun i wr => ∃ (k : Nat) (V : Nat → Nat), k ≤ Ms.length ∧ i = .int .i64 k ∧ Hid (Rs w.heap.size B gS capS Ms V k wr) ∧ Below w.heap.size w wr) (fun i _ => Ms.length - (intOf i).toNat)
  case atStart => exact ⟨0, _, Nat.zero_le _, rfl, HR0, hb4⟩
  case round =>
    obtain ⟨k, V, hk, rfl, HR, hbel⟩ := hrel
    clear HR0 hb4 hb3 hlt3
    by_cases hlt : k < Ms.length
    · have c1 := HR.out.str hlt
      have HUP := Lib.hid (upto_made Ms[k] (HMV.out _ (List.getElem_mem hlt)))
      have HSZ : Hid ((ByteArray.mk (Ms[k].flatMap enc).toArray).size ≤ 2000) := Lib.hid (by
        have : (ByteArray.mk (Ms[k].flatMap enc).toArray).size = (Ms[k].flatMap enc).length := by
          show (Ms[k].flatMap enc).toArray.size = _
          simp
        rw [this]
        exact HEL.out k hlt)
      go_wp2_with fail
      refine (flat_any _ Ms[k] HUP.out HSZ.out wr).mono ?_
      rintro e w5 ⟨b, rfl, hst, hb5⟩
      have HN := Lib.hid (HR.out.next hlt hb5 hst)
      have hlt5 := HR.out.lt.2
      have hle5 := hb5.size
      have c2 := cell_later hb5 (HR.out.slot hlt)
      have c3 := World.ownsRow.frozenAt (own_below HR.out.row hb5) k
      have hb6 : Below w.heap.size w (roundWorld w5 B k b) := (((below_step (Nat.le_refl _) hbel hb5).alloc (by have := hbel.size; omega) _).setCell (by have := hb2.size; show w.heap.size ≤ B; omega) _)
      clear hst c1
      go_wp2_with fail
      refine (ready_any _ _ _).mono ?_
      rintro e w6 ⟨rfl, rfl⟩
      have c4 := cell_past (.cells #[.pointer none, .nilIface, .iface 97 (.pointer (some ⟨b, 0, none⟩)), .nilIface] 82) c2
      have c5 := World.ownsRow.frozenAt ((own_below HR.out.row hb5).alloc (.cells #[.pointer none, .nilIface, .iface 97 (.pointer (some ⟨b, 0, none⟩)), .nilIface] 82)) k
      go_wp2
      go_roundw
      case rel => exact ⟨k + 1, _, by omega, by go_num, HN, hb6⟩
      case measure => first | (simp [intOf]; done) | (simp [intOf]; omega)
    · obtain rfl : k = Ms.length := by omega
      have HA := Lib.hid HR.out.arr
      go_wp2_with fail
      refine (array_any _ _ _).mono ?_
      rintro e w6 ⟨rfl, rfl⟩
      go_wp2
      go_ret2
      exact ⟨_, D, R, Ms, rfl, HP.out, HMS.out, HMV.out, HA.out, hbel.alloc hbel.size _⟩
end Go.Proofs.Ytekfehoabcbcfaa.fnSplitBoth
