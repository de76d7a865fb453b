/-
  FnEncodeExact: the numbers handed out, and the law's walk.
-/
import Derived.Test.YtilpolbdofojoaaEncDoor
namespace Go.Proofs.Ytilpolbdofojoaa.fnEncodeExact
open Go.RowKit
set_option linter.unusedSimpArgs false
set_option linter.unusedVariables false

@[go_sem] theorem assert_arr (a : Addr) (w : World) : (Instr.typeAssert (.iface 82 (.pointer (some a))) 48 82 false).run Try.prog w = .ok (.pointer (some a)) w := by kernel_rfl
@[go_sem] theorem assert_num (a : Addr) (w : World) : (Instr.typeAssert (.iface 86 (.pointer (some a))) 48 86 false).run Try.prog w = .ok (.pointer (some a)) w := by kernel_rfl

theorem infoF : (Try.prog.info? 28).map (fun i => (i.zero, i.size, i.bytes)) = some (some (.float .f64 0), 1, 8) := by kernel_rfl

def floats (s : ByteArray) (k : Nat) : List Value := (List.range k).map fun j => .float .f64 (fbyte s j)

theorem floats_succ (s : ByteArray) (k : Nat) : floats s (k + 1) = floats s k ++ [.float .f64 (fbyte s k)] := by
  unfold floats
  rw [List.range_succ, List.map_append]
  rfl

theorem ArrIn.below {w w' : World} {p : Nat} {s : ByteArray} (h : ArrIn w p s) (hb : Below w.heap.size w w') : ArrIn w' p s := by
  obtain ⟨g, cap, V, h1, h2, h3⟩ := h
  exact ⟨g, cap, V, cell_later hb h1, fun j hj => cell_later hb (h2 j hj), fun j hj => (h3 j hj).below hb⟩

set_option maxRecDepth 100000 in
theorem nums_any (p : Nat) (s : ByteArray) (hz : s.size ≤ 2000) (w : World) (h : ArrIn w p s) :
    Calls Try.prog 18 #[.iface 82 (.pointer (some ⟨p, 0, none⟩)), .nilIface] w
    fun e w' => ∃ v, e = .returned (.tuple #[v, .nilIface]) ∧ w'.ownsRow w.heap.size 28 1 v s.size (floats s s.size) ∧ Below w.heap.size w w' := by
  obtain ⟨g, cap, V, h1, h2, h3⟩ := h
  have H2 := Lib.hid h2
  have H3 := Lib.hid h3
  clear h2 h3
  go_enter Try.func18, Try.ntmps18
  go_wp2_with fail
  go_loopw [6, 18] (fun v i wr => ∃ k : Nat, k ≤ s.size ∧ i = .int .i64 k ∧ wr.ownsRow w.heap.size 28 1 v k (floats s k) ∧ Below w.heap.size w wr) (fun _ i _ => s.size - (intOf i).toNat)
  case atStart => exact ⟨0, Nat.zero_le _, rfl, World.ownsRow_nil _ _ _ _, Below.refl _ _⟩
  case round =>
    obtain ⟨k, hk, rfl, hown, hbel⟩ := hrel
    have hsz := hbel.size
    have HO := Lib.hid hown
    clear hown
    by_cases hlt : k < s.size
    · have c1 := cell_later hbel (H2.out k hlt)
      obtain ⟨q, -, -, c2, c3⟩ := (H3.out k hlt).below hbel
      have hf := Lib.hid (floats_succ s k)
      generalize hx : fbyte s k = x at c3
      have HX := Lib.hid hx
      clear hx
      go_wp2_with (at_builtin; refine wpList_append_run rfl (.tmp 22) (.tmp 31) 25 rfl (app1 (wr := wr) (B := w.heap.size) 25 25 28 Try.underlying25 infoF rfl HO.out hsz (World.grownBy_alloc _ _ none) (by omega) (by omega) (.float .f64 x) rfl _ _ (cell_at rfl rfl)) ?_; rintro v1 w2 ⟨hown, hg, hb⟩)
      go_roundw
      case rel => exact ⟨k + 1, by omega, by go_num, by rw [hf.out, HX.out]; exact hown, (hbel.grown (World.grownBy_alloc _ _ none) hsz (fun b hb => by cases hb)).grown hg (by simp; omega) (fun b h => (hb b h).1)⟩
      case measure => simp [intOf]; omega
    · obtain rfl : k = s.size := by omega
      go_wp2
      go_ret2
      exact ⟨_, rfl, HO.out, hbel⟩

theorem part_any (s : ByteArray) (L : List Nat) (h : Upto s s.size L) (hz : s.size ≤ 2000) (w : World) :
    Calls Try.prog 12 #[.string s] w
    fun e w' => ∃ v, e = .returned (.tuple #[v, .nilIface]) ∧ w'.ownsRow w.heap.size 28 1 v s.size (floats s s.size) ∧ Below w.heap.size w w' := by
  have H := Lib.hid h
  clear h
  go_enter Try.func12, Try.ntmps12
  go_wp2_with fail
  refine (str_any s L H.out hz _).mono ?_
  rintro e w1 ⟨b, rfl, hs, hb1⟩
  have hb2 : Below w.heap.size w w1 := below_step (Nat.le_refl _) (by go_grown) hb1
  have HS := Lib.hid hs
  clear hs
  go_wp2_with fail
  refine (encode_any s L H.out hz _ b _ HS.out).mono ?_
  rintro e w2 ⟨p, rfl, hp, hb3⟩
  have HP := Lib.hid hp
  have hb4 := below_step (Nat.le_refl _) hb2 hb3
  clear hp
  go_wp2_with fail
  refine (nums_any p s hz _ HP.out).mono ?_
  rintro e w3 ⟨v, rfl, hown, hb5⟩
  have hb6 := below_step (Nat.le_refl _) hb4 hb5
  have HO := Lib.hid (owns_mono hown (show w.heap.size ≤ w2.heap.size from hb4.size))
  clear hown
  go_wp2
  go_ret2
  exact ⟨v, rfl, HO.out, hb6⟩

theorem text_any (s : ByteArray) (L : List Nat) (h : Upto s s.size L) (hz : s.size ≤ 2000) (w : World) :
    Calls Try.prog 6 #[.string s] w
    fun e w' => ∃ v, e = .returned (.tuple #[v, .bool true]) ∧ w'.ownsRow w.heap.size 28 1 v s.size (floats s s.size) ∧ Below w.heap.size w w' := by
  have H := Lib.hid h
  clear h
  go_enter Try.func6, Try.ntmps6
  go_wp2_with fail
  refine (part_any s L H.out hz _).mono ?_
  rintro e w1 ⟨v, rfl, hown, hb⟩
  have HO := Lib.hid hown
  clear hown
  go_wp2
  go_ret2
  exact ⟨v, rfl, HO.out, hb⟩

theorem float_selfs : (List.range 256).all (fun c => FloatKind.f64.format.order (floatOfInt FloatKind.f64 (c : Int)) (floatOfInt FloatKind.f64 (c : Int)) == some .eq) = true := by kernel_rfl

theorem float_self (c : Nat) (h : c < 256) : (FloatKind.f64.format.order (floatOfInt FloatKind.f64 (c : Int)) (floatOfInt FloatKind.f64 (c : Int)) == some .eq) = true :=
  List.all_eq_true.1 float_selfs c (List.mem_range.2 h)

set_option maxRecDepth 100000 in
theorem walk (a0 : ByteArray) (w : World) (w0 : a0.size ≤ maxLen) :
    Calls Try.prog 3 #[.string a0] w fun e w' => e = .returned (.bool true) ∧ Below w.heap.size w w' := by
  by_cases hbig : (2147483647 : Int) < a0.size
  · go_enter Try.func3, Try.ntmps3
    go_wp2
    go_ret
    exact ⟨rfl, by go_grown⟩
  go_enter Try.func3, Try.ntmps3
  go_wp2_with fail
  refine (units9_any a0 _).mono ?_
  rintro e w1 ⟨⟨v, b, rfl, hu⟩, hb1⟩
  cases b
  · go_wp2
    go_ret
    exact ⟨rfl, hb1⟩
  obtain ⟨hz, L, hL⟩ := hu rfl
  have HL := Lib.hid hL
  clear hu hL
  go_wp2_with fail
  refine (text_any a0 L HL.out hz _).mono ?_
  rintro e w2 ⟨v2, rfl, hown, hb2⟩
  have hb3 := below_step (Nat.le_refl _) hb1 hb2
  obtain ⟨ao, cp, rfl⟩ := owns_slice hown
  have HO := Lib.hid hown
  clear hown
  go_wp2_with fail
  go_loopw [7] (fun i wr => ∃ k : Nat, k ≤ a0.size ∧ i = .int .i64 k ∧ Below w2.heap.size w2 wr) (fun i _ => a0.size - (intOf i).toNat)
  case atStart => exact ⟨0, Nat.zero_le _, rfl, Below.refl _ _⟩
  case round =>
    obtain ⟨k, hk, rfl, hbel⟩ := hrel
    by_cases hlt : k < a0.size
    · rcases own_form HO.out with ⟨-, h0⟩ | ⟨g, cap, hv, -⟩
      · omega
      simp only [Value.slice.injEq, true_and] at hv
      obtain ⟨rfl, rfl⟩ := hv
      have hc := byte_lt a0 k hlt
      generalize hq : a0[k].toNat = c at hc
      have hf : fbyte a0 k = floatOfInt FloatKind.f64 (c : Int) := by rw [← hq]; exact (fbyte_at a0 k hlt).symm
      have hcell := cell_later hbel ((World.ownsRow.cellAt HO.out k (by omega)).trans (show (floats a0 a0.size)[k]? = some (.float .f64 (fbyte a0 k)) by unfold floats; rw [List.getElem?_map, List.getElem?_range hlt]; rfl))
      rw [hf] at hcell
      have hself := float_self c hc
      have hcw : wrap64 (c : Int) = c := by go_arith
      generalize hfx : floatOfInt FloatKind.f64 (c : Int) = x at hcell hself
      clear hf
      have hself2 : (FloatKind.f64.format.order x x != some .eq) = false := by simpa [bne] using hself
      go_wp2
      go_region
      go_wp2
      go_roundw
      case rel => exact ⟨k + 1, by omega, by go_num, by go_grown⟩
      case measure => first | (simp [intOf]; done) | (simp [intOf]; omega)
    · go_wp2
      go_ret
      exact ⟨rfl, below_step (Nat.le_refl _) hb3 hbel⟩
end Go.Proofs.Ytilpolbdofojoaa.fnEncodeExact
