/-
  FnTextLengthAdded: the package's way from a string to its length.
-/
import Derived.Test.YtilpolbdofojoaaDoorOwn
import Derived.Test.YtilpolbdofojoaaDoorLenText
namespace Go.Proofs.YtilpolbdofojoaaDoor.fnTextLengthAdded
open Go.RowKit
set_option linter.unusedSimpArgs false
set_option linter.unusedVariables false

theorem conv_runes (s : ByteArray) (hz : s.size ≤ 4000) (w : World) :
    ∃ cap C, (convert 9 103 (.string s)).run Tryd.prog w = .ok (.slice (some ⟨w.heap.size, 0, none⟩) (points s) cap) (w.drew.alloc (.cells C 21)) := by
  have h3 := run_runes_of_string (P := Tryd.prog) w 9 103 21 s Tryd.underlying9 Tryd.underlying103 Tryd.underlying21 (by have := points_le s; unfold points at this; omega)
  exact ⟨_, _, h3⟩

/-- The package's string of so many code points. -/
def LenIn (w : World) (b n : Nat) : Prop := ∃ g cap, w.cell? ⟨b, 0, none⟩ = some (.slice g n cap)

theorem LenIn.below {w w' : World} {b n : Nat} (h : LenIn w b n) (hb : Below w.heap.size w w') : LenIn w' b n := by
  obtain ⟨g, cap, h⟩ := h
  exact ⟨g, cap, cell_later hb h⟩

set_option maxRecDepth 100000 in
theorem flat_any (s : ByteArray) (hz : s.size ≤ 4000) (w : World) : Calls Tryd.prog 17 #[.string s] w
    fun e w' => ∃ b, e = .returned (.iface 102 (.pointer (some ⟨b, 0, none⟩))) ∧ LenIn w' b (points s) ∧ Below w.heap.size w w' := by
  obtain ⟨cap, C, hconv⟩ := conv_runes s hz w
  generalize points s = n at hconv ⊢
  go_enter Tryd.func17, Tryd.ntmps17
  go_wp2
  go_ret
  exact ⟨w.heap.size + 1, rfl, ⟨some ⟨w.heap.size, 0, none⟩, cap, by simp⟩, by go_grown⟩

theorem str_any (s : ByteArray) (hz : s.size ≤ 4000) (w : World) : Calls Tryd.prog 12 #[.string s] w
    fun e w' => ∃ b, e = .returned (.iface 102 (.pointer (some ⟨b, 0, none⟩))) ∧ LenIn w' b (points s) ∧ Below w.heap.size w w' := by
  go_enter Tryd.func12, Tryd.ntmps12
  go_wp2_with fail
  refine (flat_any s hz _).mono ?_
  rintro e w1 ⟨b, rfl, hs, hb⟩
  go_wp2
  go_ret
  exact ⟨b, rfl, hs, hb⟩

@[go_sem] theorem assert_obj (a : Addr) (w : World) : (Instr.typeAssert (.iface 102 (.pointer (some a))) 42 50 true).run Tryd.prog w = .ok (.tuple #[.pointer none, .bool false]) w := by kernel_rfl
@[go_sem] theorem assert_arr (a : Addr) (w : World) : (Instr.typeAssert (.iface 102 (.pointer (some a))) 42 75 true).run Tryd.prog w = .ok (.tuple #[.pointer none, .bool false]) w := by kernel_rfl
@[go_sem] theorem assert_str (a : Addr) (w : World) : (Instr.typeAssert (.iface 102 (.pointer (some a))) 42 80 true).run Tryd.prog w = .ok (.tuple #[.iface 102 (.pointer (some a)), .bool true]) w := by kernel_rfl
@[go_sem] theorem assert_num (a : Addr) (w : World) : (Instr.typeAssert (.iface 72 (.pointer (some a))) 42 72 false).run Tryd.prog w = .ok (.pointer (some a)) w := by kernel_rfl

theorem num_any (x : Nat) (w : World) : Calls Tryd.prog 16 #[.float .f64 x] w
    fun e w' => e = .returned (.pointer (some ⟨w.heap.size, 0, none⟩)) ∧ w.alloc (.cells #[.float .f64 x] 71) = w' := by
  go_enter Tryd.func16, Tryd.ntmps16
  go_wp2
  go_ret
  exact ⟨rfl, rfl⟩

theorem length_any (b n : Nat) (w : World) (h : LenIn w b n) : Calls Tryd.prog 52 #[.pointer (some ⟨b, 0, none⟩)] w
    fun e w' => e = .returned (.int .i64 n) ∧ w = w' := by
  obtain ⟨g, cap, h⟩ := h
  go_enter Tryd.func52, Tryd.ntmps52
  go_wp2
  go_ret
  exact ⟨rfl, rfl⟩

set_option maxRecDepth 100000 in
theorem built_any (i b n : Nat) (w : World) (h : LenIn w b n) : Calls Tryd.prog 11 #[.pointer (some ⟨i, 0, none⟩), .iface 102 (.pointer (some ⟨b, 0, none⟩))] w
    fun e w' => e = .returned (.tuple #[.iface 72 (.pointer (some ⟨w.heap.size, 0, none⟩)), .nilIface]) ∧ w.alloc (.cells #[.float .f64 (floatOfInt FloatKind.f64 n)] 71) = w' := by
  have H := Lib.hid h
  clear h
  go_enter Tryd.func11, Tryd.ntmps11
  go_wp2_with fail
  refine (length_any b n _ H.out).mono ?_
  rintro e w1 ⟨rfl, rfl⟩
  go_wp2_with fail
  refine (num_any _ _).mono ?_
  rintro e w1 ⟨rfl, rfl⟩
  go_wp2
  go_ret2
  exact ⟨rfl, rfl⟩

theorem numOf_ok (b x : Nat) (w : World) (h : w.cell? ⟨b, 0, none⟩ = some (.float .f64 x)) : Calls Tryd.prog 10 #[.iface 72 (.pointer (some ⟨b, 0, none⟩)), .nilIface] w
    fun e w' => e = .returned (.tuple #[.float .f64 x, .nilIface]) ∧ w = w' := by
  go_enter Tryd.func10, Tryd.ntmps10
  go_wp2
  go_ret2
  exact ⟨rfl, rfl⟩

theorem number_ok (x : Nat) (w : World) : Calls Tryd.prog 7 #[.float .f64 x, .nilIface] w
    fun e w' => e = .returned (.tuple #[.float .f64 x, .bool true]) ∧ w = w' := by
  go_enter Tryd.func7, Tryd.ntmps7
  go_wp2
  go_ret2
  exact ⟨rfl, rfl⟩

theorem part_any (s : ByteArray) (hz : s.size ≤ 4000) (w : World) : Calls Tryd.prog 8 #[.string s] w
    fun e w' => e = .returned (.tuple #[.float .f64 (floatOfInt FloatKind.f64 (points s)), .nilIface]) ∧ Below w.heap.size w w' := by
  go_enter Tryd.func8, Tryd.ntmps8
  go_wp2_with fail
  refine (str_any s hz _).mono ?_
  rintro e w1 ⟨b, rfl, hs, hb1⟩
  have hb2 : Below w.heap.size w w1 := below_step (Nat.le_refl _) (by go_grown) hb1
  have HS := Lib.hid hs
  clear hs hb1
  go_wp2_with fail
  refine (built_any _ b (points s) _ HS.out).mono ?_
  rintro e w2 ⟨rfl, rfl⟩
  go_wp2_with fail
  refine (numOf_ok _ _ _ (cell_at rfl rfl)).mono ?_
  rintro e w3 ⟨rfl, rfl⟩
  go_wp2
  go_ret2
  exact ⟨rfl, below_step (Nat.le_refl _) hb2 (by go_grown)⟩

theorem text_any (s : ByteArray) (hz : s.size ≤ 4000) (w : World) : Calls Tryd.prog 5 #[.string s] w
    fun e w' => e = .returned (.tuple #[.float .f64 (floatOfInt FloatKind.f64 (points s)), .bool true]) ∧ Below w.heap.size w w' := by
  go_enter Tryd.func5, Tryd.ntmps5
  go_wp2_with fail
  refine (part_any s hz _).mono ?_
  rintro e w1 ⟨rfl, hb⟩
  go_wp2_with fail
  refine (number_ok _ _).mono ?_
  rintro e w2 ⟨rfl, rfl⟩
  go_wp2
  go_ret2
  exact ⟨rfl, hb⟩
end Go.Proofs.YtilpolbdofojoaaDoor.fnTextLengthAdded
