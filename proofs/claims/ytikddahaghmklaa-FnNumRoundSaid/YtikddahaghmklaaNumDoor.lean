/-
  Contracts of the functions through which numbers go in and out of the evaluator: making a number, taking it, checking it, and errors.
  No condition beyond those that each theorem names.
-/
import Derived.Test.YtikddahaghmklaaNumParts
namespace Go.Proofs.Ytikddahaghmklaa.Num
open Go.RowKit

/-- num: a new number. -/
theorem num_any (x : Nat) (w : World) : Calls Try.prog 40 #[.float .f64 x] w
    fun e w' => e = .returned (.iface 103 (.pointer (some ⟨w.heap.size, 0, none⟩))) ∧ w.alloc (.cells #[.float .f64 x] 102) = w' := by
  go_enter Try.func40, Try.ntmps40
  go_wp2
  go_ret
  exact ⟨rfl, rfl⟩

@[go_sem] theorem assert_num_ok (a : Addr) (w : World) : (Instr.typeAssert (.iface 103 (.pointer (some a))) 70 103 true).run Try.prog w = .ok (.tuple #[.pointer (some a), .bool true]) w := by kernel_rfl
@[go_sem] theorem assert_num (a : Addr) (w : World) : (Instr.typeAssert (.iface 103 (.pointer (some a))) 70 103 false).run Try.prog w = .ok (.pointer (some a)) w := by kernel_rfl

set_option maxRecDepth 100000 in
theorem getNumber_any (i : Option Addr) (a : Addr) (w : World) : Calls Try.prog 45 #[.pointer i, .iface 103 (.pointer (some a))] w
    fun e w' => e = .returned (.tuple #[.pointer (some a), .nilIface]) ∧ w = w' := by
  go_enter Try.func45, Try.ntmps45
  go_wp2
  go_ret2
  exact ⟨rfl, rfl⟩

/-- The interpreter of the doors: an empty stack, no place. -/
structure Interp (w : World) (b : Nat) : Prop where
  loc : w.cell? ⟨b, 5, none⟩ = some (.pointer none)
  stack : w.cell? ⟨b, 7, none⟩ = some (.slice none 0 0)

theorem trace_any (b : Nat) (w : World) (h : Interp w b) : Calls Try.prog 59 #[.pointer (some ⟨b, 0, none⟩)] w
    fun e w' => e = .returned (.slice none 0 0) ∧ w = w' := by
  have h1 := h.loc
  have h2 := h.stack
  go_enter Try.func59, Try.ntmps59
  go_wp2
  go_rounds 1
  go_ret
  exact ⟨rfl, rfl⟩


/-- An error of the evaluator: some value that is not nil. -/
def SomeErr (w : World) (e : Ending) (w' : World) : Prop := ∃ v, e = .returned (.iface 118 v) ∧ Below w.heap.size w w'

theorem below_refl_drew (w : World) : Below w.heap.size w w := Below.refl _ _

theorem error_any (b : Nat) (s : ByteArray) (w : World) (h : Interp w b) : Calls Try.prog 46 #[.pointer (some ⟨b, 0, none⟩), .string s] w (SomeErr w) := by
  go_enter Try.func46, Try.ntmps46
  have H := Lib.hid h
  clear h
  go_wp2_with fail
  refine (trace_any b _ H.out).mono ?_
  rintro e w1 ⟨rfl, rfl⟩
  go_wp2
  go_ret
  exact ⟨_, rfl, by go_grown⟩

theorem check_num (b x : Nat) (w : World) (hx : x < 2 ^ 64) (hn : Fl.numB x = true) : Calls Try.prog 47 #[.pointer (some ⟨b, 0, none⟩), .float .f64 x] w
    fun e w' => e = .returned (.tuple #[.iface 103 (.pointer (some ⟨w.heap.size, 0, none⟩)), .nilIface]) ∧ w.alloc (.cells #[.float .f64 x] 102) = w' := by
  have hn' := (Fl.numB_iff x).1 hn
  have H1 : Hid ((FloatKind.f64.format.order x x != some .eq) = false) := Lib.hid (Fl.nan_num hn')
  have H2 : Hid ((FloatKind.f64.format.order (x % 2 ^ 63) 9218868437227405311 == some .gt) = false) := Lib.hid (Fl.inf_num hn')
  have HX := Lib.hid hx
  clear hx hn hn'
  go_enter Try.func47, Try.ntmps47
  go_wp2_with fail
  refine (isnan_any _ _).mono ?_
  rintro e w1 ⟨rfl, rfl⟩
  rw [H1.out]
  go_wp2_with fail
  refine (isinf_any _ _ HX.out).mono ?_
  rintro e w1 ⟨rfl, rfl⟩
  rw [H2.out]
  go_wp2
  go_ret2
  exact ⟨rfl, rfl⟩

/-- Two results: nil, and some error. -/
def NilErr (w : World) (e : Ending) (w' : World) : Prop := ∃ v, e = .returned (.tuple #[.nilIface, .iface 118 v]) ∧ Below w.heap.size w w'

theorem check_not (b x : Nat) (w : World) (hx : x < 2 ^ 64) (hn : Fl.numB x = false) (h : Interp w b) : Calls Try.prog 47 #[.pointer (some ⟨b, 0, none⟩), .float .f64 x] w (NilErr w) := by
  have hcase := Fl.not_num hn
  have hd : FloatKind.f64.format = Ieee.double := rfl
  rw [← hd] at hcase
  have HX := Lib.hid hx
  have H := Lib.hid h
  clear hx hn hd h
  rcases hcase with h1 | ⟨h1, h2⟩
  · have H1 := Lib.hid h1
    clear h1
    go_enter Try.func47, Try.ntmps47
    go_wp2_with fail
    refine (isnan_any _ _).mono ?_
    rintro e w1 ⟨rfl, rfl⟩
    rw [H1.out]
    go_wp2_with fail
    refine (error_any b _ _ H.out).mono ?_
    rintro e w1 ⟨v, rfl, hb⟩
    go_wp2
    go_ret2
    exact ⟨v, rfl, hb⟩
  · have H1 := Lib.hid h1
    have H2 := Lib.hid h2
    clear h1 h2
    go_enter Try.func47, Try.ntmps47
    go_wp2_with fail
    refine (isnan_any _ _).mono ?_
    rintro e w1 ⟨rfl, rfl⟩
    rw [H1.out]
    go_wp2_with fail
    refine (isinf_any _ _ HX.out).mono ?_
    rintro e w1 ⟨rfl, rfl⟩
    rw [H2.out]
    go_wp2_with fail
    refine (error_any b _ _ H.out).mono ?_
    rintro e w1 ⟨v, rfl, hb⟩
    go_wp2
    go_ret2
    exact ⟨v, rfl, hb⟩

theorem numOf_ok (b x : Nat) (w : World) (h : w.cell? ⟨b, 0, none⟩ = some (.float .f64 x)) : Calls Try.prog 38 #[.iface 103 (.pointer (some ⟨b, 0, none⟩)), .nilIface] w
    fun e w' => e = .returned (.tuple #[.float .f64 x, .nilIface]) ∧ w = w' := by
  go_enter Try.func38, Try.ntmps38
  go_wp2
  go_ret2
  exact ⟨rfl, rfl⟩

theorem numOf_err (v : Value) (w : World) : Calls Try.prog 38 #[.nilIface, .iface 118 v] w
    fun e w' => e = .returned (.tuple #[.float .f64 0, .iface 118 v]) ∧ w = w' := by
  go_enter Try.func38, Try.ntmps38
  go_wp2
  go_ret2
  exact ⟨rfl, rfl⟩

theorem number_ok (x : Nat) (w : World) : Calls Try.prog 27 #[.float .f64 x, .nilIface] w
    fun e w' => e = .returned (.tuple #[.float .f64 x, .bool true]) ∧ w = w' := by
  go_enter Try.func27, Try.ntmps27
  go_wp2
  go_ret2
  exact ⟨rfl, rfl⟩

theorem number_err (x : Nat) (v : Value) (w : World) : Calls Try.prog 27 #[.float .f64 x, .iface 118 v] w
    fun e w' => e = .returned (.tuple #[.float .f64 0, .bool false]) ∧ w = w' := by
  go_enter Try.func27, Try.ntmps27
  go_wp2
  go_ret2
  exact ⟨rfl, rfl⟩

/-- Two results: a new number; or nil and an error. -/
def NumRes (o : Option Nat) (w : World) (e : Ending) (w' : World) : Prop :=
  match o with
  | some r => ∃ b, e = .returned (.tuple #[.iface 103 (.pointer (some ⟨b, 0, none⟩)), .nilIface]) ∧ w'.cell? ⟨b, 0, none⟩ = some (.float .f64 r) ∧ Below w.heap.size w w'
  | none => NilErr w e w'

theorem Interp.drew {w : World} {b : Nat} (h : Interp w b) : Interp w.drew b := ⟨by simpa using h.loc, by simpa using h.stack⟩

/-- The interpreter that a door makes. -/
def interpCells : Array Value := #[Value.nilIface, Value.map none, Value.map none, Value.pointer none, Value.pointer none, Value.pointer none, Value.pointer none, Value.slice none 0 0, Value.int IntKind.i64 0, Value.int IntKind.i64 0, Value.nilFunc, Value.nilFunc]

/-- What a door hands out: the number, or 0 and false. -/
def DoorTold (o : Option Nat) (w : World) (e : Ending) (w' : World) : Prop := e = .returned (.tuple #[.float .f64 (o.getD 0), .bool o.isSome]) ∧ Below w.heap.size w w'

/-- A number and an error, as a Part.. function hands them out. -/
def PartRes (o : Option Nat) (w : World) (e : Ending) (w' : World) : Prop :=
  match o with
  | some r => e = .returned (.tuple #[.float .f64 r, .nilIface]) ∧ Below w.heap.size w w'
  | none => ∃ v, e = .returned (.tuple #[.float .f64 0, .iface 118 v]) ∧ Below w.heap.size w w'

end Go.Proofs.Ytikddahaghmklaa.Num
