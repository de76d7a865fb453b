/-
  FnSplitBoth: the package's strings, thunks and arrays of strings.
-/
import Derived.Test.YtekfehoabcbcfaaSplSearch
import Derived.Laws.OwnMore
namespace Go.Proofs.Ytekfehoabcbcfaa.fnSplitBoth
open Go.RowKit Go.Proofs.Ytekfehoabcbcfaa.fnEncodeExact Go.Proofs.Ytekfehoabcbcfaa.pts
set_option linter.unusedSimpArgs false
set_option linter.unusedVariables false

theorem numV_any (x : Nat) (w : World) : Calls Try.prog 27 #[.float .f64 x] w
    fun e w' => e = .returned (.pointer (some ⟨w.heap.size, 0, none⟩)) ∧ w.alloc (.cells #[.float .f64 x] 102) = w' := by
  go_enter Try.func27, Try.ntmps27
  go_wp2
  go_ret
  exact ⟨rfl, rfl⟩

theorem num_any (x : Nat) (w : World) : Calls Try.prog 18 #[.float .f64 x] w
    fun e w' => e = .returned (.iface 93 (.pointer (some ⟨w.heap.size, 0, none⟩))) ∧ w.alloc (.cells #[.float .f64 x] 102) = w' := by
  go_enter Try.func18, Try.ntmps18
  go_wp2_with fail
  refine (numV_any _ _).mono ?_
  rintro e w1 ⟨rfl, rfl⟩
  go_wp2
  go_ret
  exact ⟨rfl, rfl⟩

theorem ready_any (t : TypeId) (v : Value) (w : World) : Calls Try.prog 24 #[.iface t v] w
    fun e w' => e = .returned (.pointer (some ⟨w.heap.size, 0, none⟩)) ∧ w.alloc (.cells #[.pointer none, .nilIface, .iface t v, .nilIface] 82) = w' := by
  go_enter Try.func24, Try.ntmps24
  go_wp2
  go_ret
  exact ⟨rfl, rfl⟩

/-- The code points' cells. -/
def rcells (L : List Nat) : List Value := (L.map Int.ofNat).map (Value.int .i32)

theorem conv_runes {s : ByteArray} {L : List Nat} (h : Upto s s.size L) (hz : s.size ≤ 2000) (w : World) :
    ∃ cap, (convert 9 108 (.string s)).run Try.prog w = .ok (.slice (some ⟨w.heap.size, 0, none⟩) L.length (L.length + cap)) (w.drew.alloc (.cells ((rcells L).toArray ++ Array.replicate cap (.int .i32 0)) 21)) := by
  have h1 := (whole h).1
  have h2 : (Conv.runesFrom s s.size 0 #[]).size = L.length := by rw [h1]; simp
  have h3 := run_runes_of_string (P := Try.prog) w 9 108 21 s Try.underlying9 Try.underlying108 Try.underlying21 (by rw [h2]; have := h.le.2; omega)
  rw [h2, h1] at h3
  have h4 := grownCap_ge w L.length 0 21
  obtain ⟨cap, hc⟩ : ∃ cap, grownCap w L.length 0 21 = L.length + cap := ⟨grownCap w L.length 0 21 - L.length, by omega⟩
  rw [hc] at h3
  exact ⟨cap, by rw [h3]; simp [rcells, Nat.add_sub_cancel_left]⟩

/-- The package's string that holds these code points, its blocks from lo on. -/
def StrIn (lo : Nat) (w : World) (b : Nat) (L : List Nat) : Prop :=
  ∃ g cap, lo ≤ b ∧ lo ≤ g ∧ w.cell? ⟨b, 0, none⟩ = some (.slice (some ⟨g, 0, none⟩) L.length cap) ∧ ∀ j v, (rcells L)[j]? = some v → w.cell? ⟨g, j, none⟩ = some v

theorem StrIn.below {lo : Nat} {w w' : World} {b : Nat} {L : List Nat} (h : StrIn lo w b L) (hb : Below w.heap.size w w') : StrIn lo w' b L := by
  obtain ⟨g, cap, a1, a2, h1, h2⟩ := h
  exact ⟨g, cap, a1, a2, cell_later hb h1, fun j v hj => cell_later hb (h2 j v hj)⟩

theorem StrIn.grown {lo B : Nat} {w w' : World} {b : Nat} {L : List Nat} (h : StrIn lo w b L) (hb : w.grownBy w' (some B)) (hB : B < lo) : StrIn lo w' b L := by
  obtain ⟨g, cap, a1, a2, h1, h2⟩ := h
  exact ⟨g, cap, a1, a2, hb.cell h1 (by simp; omega), fun j v hj => hb.cell (h2 j v hj) (by simp; omega)⟩

theorem StrIn.mono {lo lo' : Nat} {w : World} {b : Nat} {L : List Nat} (h : StrIn lo w b L) (hl : lo' ≤ lo) : StrIn lo' w b L := by
  obtain ⟨g, cap, a1, a2, h1, h2⟩ := h
  exact ⟨g, cap, by omega, by omega, h1, h2⟩

set_option maxRecDepth 100000 in
theorem flat_any (s : ByteArray) (L : List Nat) (h : Upto s s.size L) (hz : s.size ≤ 2000) (w : World) : Calls Try.prog 25 #[.string s] w
    fun e w' => ∃ b, e = .returned (.iface 97 (.pointer (some ⟨b, 0, none⟩))) ∧ StrIn w.heap.size w' b L ∧ Below w.heap.size w w' := by
  obtain ⟨cap, hconv⟩ := conv_runes h hz w
  clear h
  go_enter Try.func25, Try.ntmps25
  go_wp2
  go_ret
  refine ⟨w.heap.size + 1, rfl, ⟨w.heap.size, L.length + cap, by omega, Nat.le_refl _, by simp, fun j v hj => ?_⟩, by go_grown⟩
  have hlt : j < (rcells L).length := (List.getElem?_eq_some_iff.1 hj).1
  have h1 : (w.alloc (.cells ((rcells L).toArray ++ Array.replicate cap (.int .i32 0)) 21)).cell? ⟨w.heap.size, j, none⟩ = some v := by
    rw [World.cell?_alloc_mark, Array.getElem?_append_left (by simpa using hlt)]
    simpa using hj
  have h2 := cell_later (Below.alloc (Below.refl _ _) (Nat.le_refl _) (.cells #[.slice (some ⟨w.heap.size, 0, none⟩) L.length (L.length + cap)] 110)) h1
  simpa using h2

theorem str_any (s : ByteArray) (L : List Nat) (h : Upto s s.size L) (hz : s.size ≤ 2000) (w : World) : Calls Try.prog 17 #[.string s] w
    fun e w' => ∃ b, e = .returned (.iface 97 (.pointer (some ⟨b, 0, none⟩))) ∧ StrIn w.heap.size w' b L ∧ Below w.heap.size w w' := by
  have H := Lib.hid h
  clear h
  go_enter Try.func17, Try.ntmps17
  go_wp2_with fail
  refine (flat_any s L H.out hz _).mono ?_
  rintro e w1 ⟨b, rfl, hs, hb⟩
  go_wp2
  go_ret
  exact ⟨b, rfl, hs, hb⟩

theorem conv_back {w : World} {L : List Nat} {s : ByteArray} (h : Upto s s.size L) {g : Nat} {cap : Nat} (hc : ∀ j v, (rcells L)[j]? = some v → w.cell? ⟨g, j, none⟩ = some v) :
    (convert 108 9 (.slice (some ⟨g, 0, none⟩) L.length cap)).run Try.prog w = .ok (.string s) w := by
  rw [run_convert_runes_string (P := Try.prog) w 108 9 21 _ _ _ Try.underlying108 Try.underlying21 Try.underlying9]
  have hl := run_loadCells_list (P := Try.prog) w ⟨g, 0, none⟩ (rcells L) (fun j v hj => by rw [Addr.add_lit]; simpa using hc j v hj)
  have hlen : (rcells L).length = L.length := by simp [rcells]
  rw [hlen] at hl
  rw [run_runesToString w _ _ _ (L.map Int.ofNat) hl, (whole h).2]

theorem getGo_any {lo : Nat} (b : Nat) (s : ByteArray) (L : List Nat) (h : Upto s s.size L) (w : World) (hs : StrIn lo w b L) : Calls Try.prog 63 #[.pointer (some ⟨b, 0, none⟩)] w
    fun e w' => e = .returned (.string s) ∧ w = w' := by
  obtain ⟨g, cap, -, -, h1, h2⟩ := hs
  have hb := conv_back (cap := cap) h h2
  clear h h2
  go_enter Try.func63, Try.ntmps63
  go_wp2
  go_ret
  exact ⟨rfl, rfl⟩

@[go_sem] theorem assert_flat_ok (a : Addr) (w : World) : (Instr.typeAssert (.iface 97 (.pointer (some a))) 42 77 true).run Try.prog w = .ok (.tuple #[.iface 97 (.pointer (some a)), .bool true]) w := by kernel_rfl
@[go_sem] theorem assert_flat (a : Addr) (w : World) : (Instr.typeAssert (.iface 97 (.pointer (some a))) 42 77 false).run Try.prog w = .ok (.iface 97 (.pointer (some a))) w := by kernel_rfl
@[go_sem] theorem assert_numV (a : Addr) (w : World) : (Instr.typeAssert (.iface 93 (.pointer (some a))) 42 93 true).run Try.prog w = .ok (.tuple #[.pointer (some a), .bool true]) w := by kernel_rfl
@[go_sem] theorem assert_arr (a : Addr) (w : World) : (Instr.typeAssert (.iface 74 (.pointer (some a))) 42 74 false).run Try.prog w = .ok (.pointer (some a)) w := by kernel_rfl

set_option maxRecDepth 100000 in
theorem getString_any (i : Option Addr) (a : Addr) (w : World) : Calls Try.prog 20 #[.pointer i, .iface 97 (.pointer (some a))] w
    fun e w' => e = .returned (.tuple #[.iface 97 (.pointer (some a)), .nilIface]) ∧ w = w' := by
  go_enter Try.func20, Try.ntmps20
  go_wp2
  go_ret2
  exact ⟨rfl, rfl⟩

theorem getNumber_any (i : Option Addr) (a : Addr) (w : World) : Calls Try.prog 32 #[.pointer i, .iface 93 (.pointer (some a))] w
    fun e w' => e = .returned (.tuple #[.pointer (some a), .nilIface]) ∧ w = w' := by
  go_enter Try.func32, Try.ntmps32
  go_wp2
  go_ret2
  exact ⟨rfl, rfl⟩

/-- The two limits: as doubles, and as integers. -/
def Limit (x : Nat) (n : Int) : Prop := x = 13830554455654793216 ∧ n = -1 ∨ x = 4656510908468559872 ∧ n = 2000

theorem conv_m1 (w : World) : (convert 29 21 (.float .f64 13830554455654793216)).run Try.prog w = .ok (.int .i32 (-1)) w := by kernel_rfl
theorem conv_2k (w : World) : (convert 29 21 (.float .f64 4656510908468559872)).run Try.prog w = .ok (.int .i32 2000) w := by kernel_rfl
theorem back_m1 (w : World) : (convert 3 29 (.int .i64 (-1))).run Try.prog w = .ok (.float .f64 13830554455654793216) w := by kernel_rfl
theorem back_2k (w : World) : (convert 3 29 (.int .i64 2000)).run Try.prog w = .ok (.float .f64 4656510908468559872) w := by kernel_rfl

set_option maxRecDepth 100000 in
theorem getInt_any (i : Option Addr) (a : Nat) (x : Nat) (n : Int) (hx : Limit x n) (w : World) (hc : w.cell? ⟨a, 0, none⟩ = some (.float .f64 x)) : Calls Try.prog 21 #[.pointer i, .iface 93 (.pointer (some ⟨a, 0, none⟩))] w
    fun e w' => e = .returned (.tuple #[.int .i64 n, .nilIface]) ∧ w = w' := by
  rcases hx with ⟨rfl, rfl⟩ | ⟨rfl, rfl⟩
  · have h1 := conv_m1
    have h2 := back_m1
    have h3 : (FloatKind.f64.format.order 13830554455654793216 13830554455654793216 != some .eq) = false := by kernel_rfl
    go_enter Try.func21, Try.ntmps21
    go_wp2_with fail
    refine (getNumber_any _ _ _).mono ?_
    rintro e w1 ⟨rfl, rfl⟩
    go_wp2
    go_ret2
    exact ⟨rfl, rfl⟩
  · have h1 := conv_2k
    have h2 := back_2k
    have h3 : (FloatKind.f64.format.order 4656510908468559872 4656510908468559872 != some .eq) = false := by kernel_rfl
    go_enter Try.func21, Try.ntmps21
    go_wp2_with fail
    refine (getNumber_any _ _ _).mono ?_
    rintro e w1 ⟨rfl, rfl⟩
    go_wp2
    go_ret2
    exact ⟨rfl, rfl⟩

theorem infoThunkP : (Try.prog.info? 75).map (fun i => (i.zero, i.size, i.bytes)) = some (some (.pointer none), 1, 8) := by kernel_rfl

/-- A thunk that holds a string, its blocks from lo on. -/
def ThunkIn (lo : Nat) (w : World) (p : Nat) (M : List Nat) : Prop :=
  ∃ q, lo ≤ p ∧ w.cell? ⟨p, 2, none⟩ = some (.iface 97 (.pointer (some ⟨q, 0, none⟩))) ∧ StrIn lo w q M

theorem ThunkIn.below {lo : Nat} {w w' : World} {p : Nat} {M : List Nat} (h : ThunkIn lo w p M) (hb : Below w.heap.size w w') : ThunkIn lo w' p M := by
  obtain ⟨q, h1, h2, h3⟩ := h
  exact ⟨q, h1, cell_later hb h2, h3.below hb⟩

theorem ThunkIn.grown {lo B : Nat} {w w' : World} {p : Nat} {M : List Nat} (h : ThunkIn lo w p M) (hb : w.grownBy w' (some B)) (hB : B < lo) : ThunkIn lo w' p M := by
  obtain ⟨q, h1, h2, h3⟩ := h
  exact ⟨q, h1, hb.cell h2 (by simp; omega), h3.grown hb hB⟩

theorem array_any (g len : Nat) (w : World) : Calls Try.prog 26 #[.slice (some ⟨g, 0, none⟩) len len] w
    fun e w' => e = .returned (.pointer (some ⟨w.heap.size, 0, none⟩)) ∧ w.alloc (.cells #[.slice (some ⟨g, 0, none⟩) len len] 73) = w' := by
  go_enter Try.func26, Try.ntmps26
  go_wp2
  go_ret
  exact ⟨rfl, rfl⟩

/-- The package's array of these strings. -/
def ArrIn (w : World) (p : Nat) (Ms : List (List Nat)) : Prop :=
  ∃ (g cap : Nat) (V : Nat → Nat), w.cell? ⟨p, 0, none⟩ = some (.slice (some ⟨g, 0, none⟩) Ms.length cap) ∧ (∀ j, j < Ms.length → w.cell? ⟨g, j, none⟩ = some (.pointer (some ⟨V j, 0, none⟩))) ∧ ∀ j (h : j < Ms.length), ThunkIn 0 w (V j) (Ms[j])

theorem ArrIn.below {w w' : World} {p : Nat} {Ms : List (List Nat)} (h : ArrIn w p Ms) (hb : Below w.heap.size w w') : ArrIn w' p Ms := by
  obtain ⟨g, cap, V, h1, h2, h3⟩ := h
  exact ⟨g, cap, V, cell_later hb h1, fun j hj => cell_later hb (h2 j hj), fun j hj => (h3 j hj).below hb⟩

/-- Parts as code points. -/
def bytesOf (Ms : List (List Nat)) : List (List UInt8) := Ms.map fun M => M.flatMap enc

theorem parts_points {P : List (List UInt8)} (h : ∀ x ∈ P, ∃ M : List Nat, x = M.flatMap enc ∧ ∀ r ∈ M, Val r) : ∃ Ms : List (List Nat), P = bytesOf Ms ∧ ∀ M ∈ Ms, ∀ r ∈ M, Val r := by
  induction P with
  | nil => exact ⟨[], rfl, fun M hM => by cases hM⟩
  | cons x P ih =>
    obtain ⟨Ms, h1, h2⟩ := ih (fun y hy => h y (by simp [hy]))
    obtain ⟨M, h3, h4⟩ := h x (by simp)
    refine ⟨M :: Ms, by rw [h1, h3]; rfl, fun N hN => ?_⟩
    rcases List.mem_cons.1 hN with rfl | hN
    · exact h4
    · exact h2 N hN

theorem infoStringA (Ms : List (List Nat)) : cells (bytesOf Ms) = Ms.map fun M => .string ⟨(M.flatMap enc).toArray⟩ := by simp [cells, bytesOf]

theorem cells_take (Ms : List (List Nat)) (k : Nat) (h : k < Ms.length) : cells (bytesOf (Ms.take (k + 1))) = cells (bytesOf (Ms.take k)) ++ [.string ⟨(Ms[k].flatMap enc).toArray⟩] := by
  rw [infoStringA, infoStringA, List.take_succ_eq_append_getElem h, List.map_append]
  rfl

set_option maxRecDepth 100000 in
theorem strs_any (p : Nat) (Ms : List (List Nat)) (hz : Ms.length ≤ 4000) (hv : ∀ M ∈ Ms, ∀ r ∈ M, Val r) (w : World) (h : ArrIn w p Ms) :
    Calls Try.prog 15 #[.iface 74 (.pointer (some ⟨p, 0, none⟩)), .nilIface] w
    fun e w' => ∃ v, e = .returned (.tuple #[v, .nilIface]) ∧ w'.ownsRow w.heap.size 9 1 v Ms.length (cells (bytesOf Ms)) ∧ Below w.heap.size w w' := by
  obtain ⟨g, cap, V, h1, h2, h3⟩ := h
  have H2 := Lib.hid h2
  have H3 := Lib.hid h3
  have HV := Lib.hid hv
  clear h2 h3 hv
  go_enter Try.func15, Try.ntmps15
  go_wp2_with fail
  go_loopw [6, 18] (fun v i wr => ∃ k : Nat, k ≤ Ms.length ∧ i = .int .i64 k ∧ Hid (wr.ownsRow w.heap.size 9 1 v k (cells (bytesOf (Ms.take k)))) ∧ Below w.heap.size w wr) (fun _ i _ => Ms.length - (intOf i).toNat)
  case atStart => exact ⟨0, Nat.zero_le _, rfl, Lib.hid (World.ownsRow_nil _ _ _ _), Below.refl _ _⟩
  case round =>
    obtain ⟨k, hk, rfl, HO, hbel⟩ := hrel
    have hsz := hbel.size
    by_cases hlt : k < Ms.length
    · have c1 := cell_later hbel (H2.out k hlt)
      obtain ⟨q, -, c2, hst⟩ := (H3.out k hlt).below hbel
      have HST := Lib.hid hst
      have HUP := Lib.hid (upto_made Ms[k] (HV.out _ (List.getElem_mem hlt)))
      have hct := Lib.hid (cells_take Ms k hlt)
      clear hst
      go_wp2_with fail
      refine (getGo_any q _ _ HUP.out _ HST.out).mono ?_
      rintro e w1 ⟨rfl, rfl⟩
      go_wp2_with (at_builtin; refine wpList_append_run rfl (.tmp 22) (.tmp 29) 26 rfl (app1 (wr := wr) (B := w.heap.size) 26 26 9 Try.underlying26 infoString rfl HO.out hsz (World.grownBy_alloc _ _ none) (by omega) (by omega) (.string ⟨(Ms[k].flatMap enc).toArray⟩) rfl _ _ (cell_at rfl rfl)) ?_; rintro v1 w2 ⟨hown, hg, hb⟩)
      go_roundw
      case rel => exact ⟨k + 1, by omega, by go_num, Lib.hid (by rw [hct.out]; exact hown), (hbel.grown (World.grownBy_alloc _ _ none) hsz (fun b hb => by cases hb)).grown hg (by simp; omega) (fun b h => (hb b h).1)⟩
      case measure => simp [intOf]; omega
    · obtain rfl : k = Ms.length := by omega
      have HE : Hid (cells (bytesOf (Ms.take Ms.length)) = cells (bytesOf Ms)) := Lib.hid (by rw [List.take_length])
      go_wp2
      go_ret2
      exact ⟨_, rfl, by rw [← HE.out]; exact HO.out, hbel⟩
end Go.Proofs.Ytekfehoabcbcfaa.fnSplitBoth
