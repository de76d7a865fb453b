/-
  FnEncodeExact: the package's way from a string to its bytes.
-/
import Derived.Test.YtilpolbdofojoaaEncUnits
namespace Go.Proofs.Ytilpolbdofojoaa.fnEncodeExact
open Go.RowKit
set_option linter.unusedSimpArgs false
set_option linter.unusedVariables false

theorem num_any (x : Nat) (w : World) : Calls Try.prog 27 #[.float .f64 x] w
    fun e w' => e = .returned (.pointer (some ⟨w.heap.size, 0, none⟩)) ∧ w.alloc (.cells #[.float .f64 x] 85) = w' := by
  go_enter Try.func27, Try.ntmps27
  go_wp2
  go_ret
  exact ⟨rfl, rfl⟩

theorem ready_any (t : TypeId) (v : Value) (w : World) : Calls Try.prog 26 #[.iface t v] w
    fun e w' => e = .returned (.pointer (some ⟨w.heap.size, 0, none⟩)) ∧ w.alloc (.cells #[.pointer none, .nilIface, .iface t v, .nilIface] 91) = w' := by
  go_enter Try.func26, Try.ntmps26
  go_wp2
  go_ret
  exact ⟨rfl, rfl⟩

/-- The code points' cells. -/
def pts (L : List Nat) : List Value := (L.map Int.ofNat).map (Value.int .i32)

theorem conv_runes {s : ByteArray} {L : List Nat} (h : Upto s s.size L) (hz : s.size ≤ 2000) (w : World) :
    ∃ cap, (convert 9 110 (.string s)).run Try.prog w = .ok (.slice (some ⟨w.heap.size, 0, none⟩) L.length (L.length + cap)) (w.drew.alloc (.cells ((pts L).toArray ++ Array.replicate cap (.int .i32 0)) 21)) := by
  have h1 := (whole h).1
  have h2 : (Conv.runesFrom s s.size 0 #[]).size = L.length := by rw [h1]; simp
  have h3 := run_runes_of_string (P := Try.prog) w 9 110 21 s Try.underlying9 Try.underlying110 Try.underlying21 (by rw [h2]; have := h.le.2; omega)
  rw [h2, h1] at h3
  have h4 := grownCap_ge w L.length 0 21
  obtain ⟨cap, hc⟩ : ∃ cap, grownCap w L.length 0 21 = L.length + cap := ⟨grownCap w L.length 0 21 - L.length, by omega⟩
  rw [hc] at h3
  exact ⟨cap, by rw [h3]; simp [pts, Nat.add_sub_cancel_left]⟩

/-- The package's string that holds these code points. -/
def StrIn (w : World) (b : Nat) (L : List Nat) : Prop :=
  ∃ g cap, w.cell? ⟨b, 0, none⟩ = some (.slice (some ⟨g, 0, none⟩) L.length cap) ∧ ∀ j v, (pts L)[j]? = some v → w.cell? ⟨g, j, none⟩ = some v

theorem StrIn.below {w w' : World} {b : Nat} {L : List Nat} (h : StrIn w b L) (hb : Below w.heap.size w w') : StrIn w' b L := by
  obtain ⟨g, cap, h1, h2⟩ := h
  exact ⟨g, cap, cell_later hb h1, fun j v hj => cell_later hb (h2 j v hj)⟩

set_option maxRecDepth 100000 in
theorem flat_any (s : ByteArray) (L : List Nat) (h : Upto s s.size L) (hz : s.size ≤ 2000) (w : World) : Calls Try.prog 29 #[.string s] w
    fun e w' => ∃ b, e = .returned (.iface 108 (.pointer (some ⟨b, 0, none⟩))) ∧ StrIn w' b L ∧ Below w.heap.size w w' := by
  obtain ⟨cap, hconv⟩ := conv_runes h hz w
  clear h
  go_enter Try.func29, Try.ntmps29
  go_wp2
  go_ret
  refine ⟨w.heap.size + 1, rfl, ⟨w.heap.size, L.length + cap, by simp, fun j v hj => ?_⟩, by go_grown⟩
  have hlt : j < (pts L).length := (List.getElem?_eq_some_iff.1 hj).1
  have h1 : (w.alloc (.cells ((pts L).toArray ++ Array.replicate cap (.int .i32 0)) 21)).cell? ⟨w.heap.size, j, none⟩ = some v := by
    rw [World.cell?_alloc_mark, Array.getElem?_append_left (by simpa using hlt)]
    simpa using hj
  have h2 := cell_later (Below.alloc (Below.refl _ _) (Nat.le_refl _) (.cells #[.slice (some ⟨w.heap.size, 0, none⟩) L.length (L.length + cap)] 112)) h1
  simpa using h2

theorem str_any (s : ByteArray) (L : List Nat) (h : Upto s s.size L) (hz : s.size ≤ 2000) (w : World) : Calls Try.prog 20 #[.string s] w
    fun e w' => ∃ b, e = .returned (.iface 108 (.pointer (some ⟨b, 0, none⟩))) ∧ StrIn w' b L ∧ Below w.heap.size w w' := by
  have H := Lib.hid h
  clear h
  go_enter Try.func20, Try.ntmps20
  go_wp2_with fail
  refine (flat_any s L H.out hz _).mono ?_
  rintro e w1 ⟨b, rfl, hs, hb⟩
  go_wp2
  go_ret
  exact ⟨b, rfl, hs, hb⟩

theorem conv_back {w : World} {b : Nat} {L : List Nat} {s : ByteArray} (h : Upto s s.size L) {g : Nat} {cap : Nat} (hc : ∀ j v, (pts L)[j]? = some v → w.cell? ⟨g, j, none⟩ = some v) :
    (convert 110 9 (.slice (some ⟨g, 0, none⟩) L.length cap)).run Try.prog w = .ok (.string s) w := by
  rw [run_convert_runes_string (P := Try.prog) w 110 9 21 _ _ _ Try.underlying110 Try.underlying21 Try.underlying9]
  have hl := run_loadCells_list (P := Try.prog) w ⟨g, 0, none⟩ (pts L) (fun j v hj => by rw [Addr.add_lit]; simpa using hc j v hj)
  have hlen : (pts L).length = L.length := by simp [pts]
  rw [hlen] at hl
  rw [run_runesToString w _ _ _ (L.map Int.ofNat) hl, (whole h).2]

theorem getGo_any (b : Nat) (s : ByteArray) (L : List Nat) (h : Upto s s.size L) (w : World) (hs : StrIn w b L) : Calls Try.prog 68 #[.pointer (some ⟨b, 0, none⟩)] w
    fun e w' => e = .returned (.string s) ∧ w = w' := by
  obtain ⟨g, cap, h1, h2⟩ := hs
  have hb := conv_back (b := b) (cap := cap) h h2
  clear h h2
  go_enter Try.func68, Try.ntmps68
  go_wp2
  go_ret
  exact ⟨rfl, rfl⟩

@[go_sem] theorem assert_flat_ok (a : Addr) (w : World) : (Instr.typeAssert (.iface 108 (.pointer (some a))) 48 93 true).run Try.prog w = .ok (.tuple #[.iface 108 (.pointer (some a)), .bool true]) w := by kernel_rfl

set_option maxRecDepth 100000 in
theorem getString_any (i : Option Addr) (a : Addr) (w : World) : Calls Try.prog 25 #[.pointer i, .iface 108 (.pointer (some a))] w
    fun e w' => e = .returned (.tuple #[.iface 108 (.pointer (some a)), .nilIface]) ∧ w = w' := by
  go_enter Try.func25, Try.ntmps25
  go_wp2
  go_ret2
  exact ⟨rfl, rfl⟩

theorem infoThunkP : (Try.prog.info? 83).map (fun i => (i.zero, i.size, i.bytes)) = some (some (.pointer none), 1, 8) := by kernel_rfl

/-- A thunk that holds a number, none of its blocks the row's. -/
def ThunkIn (w : World) (B p : Nat) (x : Nat) : Prop :=
  ∃ q, p ≠ B ∧ q ≠ B ∧ w.cell? ⟨p, 2, none⟩ = some (.iface 86 (.pointer (some ⟨q, 0, none⟩))) ∧ w.cell? ⟨q, 0, none⟩ = some (.float .f64 x)

theorem ThunkIn.below {w w' : World} {B p x : Nat} (h : ThunkIn w B p x) (hb : Below w.heap.size w w') : ThunkIn w' B p x := by
  obtain ⟨q, h1, h2, h3, h4⟩ := h
  exact ⟨q, h1, h2, cell_later hb h3, cell_later hb h4⟩

theorem ThunkIn.grown {w w' : World} {B p x : Nat} (h : ThunkIn w B p x) (hb : w.grownBy w' (some B)) : ThunkIn w' B p x := by
  obtain ⟨q, h1, h2, h3, h4⟩ := h
  exact ⟨q, h1, h2, hb.cell h3 (by simpa using h1), hb.cell h4 (by simpa using h2)⟩

/-- Pointers to thunks. -/
def ptrs (V : Nat → Nat) (k : Nat) : List Value := (List.range k).map fun j => .pointer (some ⟨V j, 0, none⟩)

theorem ptrs_succ (V : Nat → Nat) (k p : Nat) : ptrs (fun j => if j = k then p else V j) (k + 1) = ptrs V k ++ [.pointer (some ⟨p, 0, none⟩)] := by
  unfold ptrs
  rw [List.range_succ, List.map_append]
  congr 1
  · apply List.map_congr_left
    intro j hj
    have := List.mem_range.1 hj
    show Value.pointer (some ⟨if j = k then p else V j, 0, none⟩) = _
    rw [if_neg (by omega)]
  · simp

theorem thunk_new (wr : World) (B x : Nat) (h : B < wr.heap.size) (o : Obj) :
    ThunkIn (((wr.alloc (.cells #[.float .f64 x] 85)).alloc (.cells #[.pointer none, .nilIface, .iface 86 (.pointer (some ⟨wr.heap.size, 0, none⟩)), .nilIface] 91)).alloc o) B (wr.heap.size + 1) x :=
  ⟨wr.heap.size, by omega, by omega, cell_past _ (cell_at (by simp) rfl), cell_past _ (cell_past _ (cell_at rfl rfl))⟩

theorem below3 (wr : World) (a b c : Obj) : Below wr.heap.size wr (((wr.alloc a).alloc b).alloc c) := by go_grown

/-- The double of a byte. -/
def fbyte (s : ByteArray) (j : Nat) : Nat := floatOfInt FloatKind.f64 (((s.data[j]?).map (fun b => b.toNat)).getD 0 : Nat)

theorem fbyte_at (s : ByteArray) (j : Nat) (hj : j < s.data.size) : floatOfInt FloatKind.f64 (s.data[j].toNat : Int) = fbyte s j := by
  unfold fbyte
  rw [Array.getElem?_eq_getElem hj]
  rfl

theorem array_any (g len : Nat) (w : World) : Calls Try.prog 28 #[.slice (some ⟨g, 0, none⟩) len len] w
    fun e w' => e = .returned (.pointer (some ⟨w.heap.size, 0, none⟩)) ∧ w.alloc (.cells #[.slice (some ⟨g, 0, none⟩) len len] 81) = w' := by
  go_enter Try.func28, Try.ntmps28
  go_wp2
  go_ret
  exact ⟨rfl, rfl⟩

/-- The package's array of these numbers. -/
def ArrIn (w : World) (p : Nat) (s : ByteArray) : Prop :=
  ∃ (g cap : Nat) (V : Nat → Nat), w.cell? ⟨p, 0, none⟩ = some (.slice (some ⟨g, 0, none⟩) s.size cap) ∧ (∀ j, j < s.size → w.cell? ⟨g, j, none⟩ = some (.pointer (some ⟨V j, 0, none⟩))) ∧ ∀ j, j < s.size → ThunkIn w g (V j) (fbyte s j)

set_option maxRecDepth 100000 in
theorem encode_any (s : ByteArray) (L : List Nat) (h : Upto s s.size L) (hz : s.size ≤ 2000) (i b : Nat) (w : World) (hs : StrIn w b L) :
    Calls Try.prog 19 #[.pointer (some ⟨i, 0, none⟩), .iface 108 (.pointer (some ⟨b, 0, none⟩))] w
    fun e w' => ∃ p, e = .returned (.tuple #[.iface 82 (.pointer (some ⟨p, 0, none⟩)), .nilIface]) ∧ ArrIn w' p s ∧ Below w.heap.size w w' := by
  have H := Lib.hid h
  have HS := Lib.hid hs
  clear h hs
  go_enter Try.func19, Try.ntmps19
  go_wp2_with fail
  refine (getString_any _ _ _).mono ?_
  rintro e w1 ⟨rfl, rfl⟩
  go_wp2_with fail
  refine (getGo_any b s L H.out _ HS.out).mono ?_
  rintro e w1 ⟨rfl, rfl⟩
  have hconv := fun w => run_bytes_of_string (P := Try.prog) w 9 97 5 s Try.underlying9 Try.underlying97 Try.underlying5
  obtain ⟨i0, hi, hz0, hz1, hz2⟩ := info_parts infoThunkP
  go_wp2_with (at_make; refine wpList_make_own _ rfl _ _ 79 rfl w.heap.size 83 i0 (.pointer none) 1 Try.underlying79 hi hz0 hz1 _ _ _ s.size rfl rfl rfl (by rw [hz2]; omega) (by unfold maxLen; omega) (Nat.le_refl _) ?_; intro w2 hown hg)
  have hsz2 := hg.size
  have hb2 : Below w.heap.size w w2 := (Below.refl _ _).grown hg (Nat.le_refl _) (fun b hb => by cases hb)
  generalize hcap : grownCap w2 s.size 0 5 = cap
  have hbytes : Hid (∀ j (hj : j < s.data.size), (w2.alloc (.cells (bytesRow s cap) 5 ((bytesRow s cap).size, (bytesRow s cap).size + 1))).drew.cell? ⟨w2.heap.size, j, none⟩ = some (.int .u8 (s.data[j].toNat : Int))) := Lib.hid (fun j hj => by
    show World.cell? (w2.alloc _) _ = _
    rw [World.cell?_alloc_mark]
    exact bytesRow_at s cap j hj)
  have hlt0 : w.heap.size < w2.heap.size := (hown.lt _ rfl).2
  go_loopw [9, 29] (fun v i wr => ∃ k : Nat, k ≤ s.size ∧ i = .int .i64 k ∧ v = .slice (some ⟨w.heap.size, 0, none⟩) k s.size ∧ (∃ V : Nat → Nat, wr.ownsRow w.heap.size 83 1 (.slice (some ⟨w.heap.size, 0, none⟩) k s.size) k (ptrs V k) ∧ Hid (∀ j, j < k → ThunkIn wr w.heap.size (V j) (fbyte s j))) ∧ Hid (∀ j (hj : j < s.data.size), wr.cell? ⟨w2.heap.size, j, none⟩ = some (.int .u8 (s.data[j].toNat : Int))) ∧ w2.heap.size < wr.heap.size ∧ Below w.heap.size w wr) (fun _ i _ => s.size - (intOf i).toNat)
  case atStart => exact ⟨0, Nat.zero_le _, rfl, rfl, ⟨fun _ => 0, (hown.alloc _).drew, Lib.hid (fun j hj => absurd hj (by omega))⟩, hbytes, by simp, by go_grown⟩
  case round =>
    obtain ⟨k, hk, rfl, rfl, ⟨V, hrow, HT⟩, HB, hlt2, hbel⟩ := hrel
    have hsz := hbel.size
    have HO := Lib.hid hrow
    clear hrow hbytes hcap hown
    by_cases hlt : k < s.size
    · have hcell := HB.out k (by simpa using hlt)
      go_wp2_with fail
      refine (num_any _ _).mono ?_
      rintro e w3 ⟨rfl, rfl⟩
      go_wp2_with fail
      refine (ready_any _ _ _).mono ?_
      rintro e w3 ⟨rfl, rfl⟩
      go_wp2_with (at_builtin; refine wpList_append_run rfl (.tmp 33) (.tmp 39) 79 rfl (fits1 (k := k) (g := w.heap.size) (cap := s.size) (B := w.heap.size) 79 _ 83 Try.underlying79 infoThunkP (((HO.out.alloc _).alloc _).alloc _) (.pointer (some ⟨wr.heap.size + 1, 0, none⟩)) rfl ⟨wr.heap.size + 1 + 1, 0, none⟩ 1 (cell_at_new (by simp)) hlt) ?_; rintro v1 w5 ⟨rfl, hown5, hg5⟩)
      have hG := below3 wr (.cells #[.float .f64 (floatOfInt FloatKind.f64 (s.data[k].toNat : Int))] 85) (.cells #[.pointer none, .nilIface, .iface 86 (.pointer (some ⟨wr.heap.size, 0, none⟩)), .nilIface] 91) (.cells #[.pointer (some ⟨wr.heap.size + 1, 0, none⟩)] 83)
      have hnew := (thunk_new wr w.heap.size (floatOfInt FloatKind.f64 (s.data[k].toNat : Int)) (by omega) (.cells #[.pointer (some ⟨wr.heap.size + 1, 0, none⟩)] 83)).grown hg5
      rw [fbyte_at] at hnew
      go_roundw
      case rel =>
        refine ⟨k + 1, by omega, by go_num, by go_num, ⟨fun j => if j = k then wr.heap.size + 1 else V j, by rw [ptrs_succ]; exact hown5, Lib.hid (fun j hj => ?_)⟩, Lib.hid (fun j hj => hg5.cell (cell_later hG (HB.out j hj)) (by simp; omega)), ?_, ?_⟩
        · by_cases hjk : j = k
          · subst hjk
            simp only [if_true]
            exact hnew
          · simp only [if_neg hjk]
            exact ((HT.out j (by omega)).below hG).grown hg5
        · have := hg5.size
          simp at this
          omega
        · exact (below_step (Nat.le_refl _) hbel (hG.mono (by omega))).grown hg5 (by simp; omega) (fun b hb => by simp at hb; omega)
      case measure => simp [intOf]; omega
    · obtain rfl : k = s.size := by omega
      go_wp2_with fail
      refine (array_any _ _ _).mono ?_
      rintro e w3 ⟨rfl, rfl⟩
      go_wp2
      go_ret2
      refine ⟨_, rfl, ⟨w.heap.size, s.size, V, by simp, fun j hj => ?_, fun j hj => ?_⟩, by go_grown⟩
      · have := World.ownsRow.cellAt HO.out j (by omega)
        have h2 := this.trans (show (ptrs V s.size)[j]? = some (.pointer (some ⟨V j, 0, none⟩)) by unfold ptrs; rw [List.getElem?_map, List.getElem?_range hj]; rfl)
        simpa using cell_later (Below.alloc (Below.refl _ _) (Nat.le_refl _) _) h2
      · simpa using (HT.out j hj).below (Below.alloc (Below.refl _ _) (Nat.le_refl _) _)
end Go.Proofs.Ytilpolbdofojoaa.fnEncodeExact
