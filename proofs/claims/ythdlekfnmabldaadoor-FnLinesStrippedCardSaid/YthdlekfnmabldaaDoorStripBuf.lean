/-
  FnLinesStripped: the library's contracts on its Buffer, laid at this program (written by the shelf's own tool; plain words).
-/
import Derived.Shelf.LaysM
import Derived.Shelf.Bytes.String
import Derived.Shelf.Bytes.ResetKept
import Derived.Shelf.Bytes.BufferK
import Derived.Shelf.Wr.WriteRune
import Derived.Test.YthdlekfnmabldaaDoorChecked
namespace Go.Proofs
open Go.Shelf
def Tryd.laysM182_ren : Go.Shelf.Ren := ⟨fun | 182 => 14 | n => n, fun | 130 => 44 | 9 => 9 | 4 => 4 | 0 => 0 | 93 => 36 | 37 => 32 | 3 => 3 | 91 => 34 | 5 => 5 | n => n, fun | n => n⟩
theorem Tryd.laysM182 : Go.Proofs.LaysM.n182 Tryd.prog Tryd.laysM182_ren := {
  mixed := by kernel_rfl
  f182 := Tryd.func14.trans (congrArg some (by kernel_rfl))
  t0 := Tryd.underlying0
  a0 := Tryd.isAgg0
  z0 := Tryd.sizeOf0
  v0 := Tryd.zeroValue0
  t3 := Tryd.underlying3
  a3 := Tryd.isAgg3
  z3 := Tryd.sizeOf3
  v3 := Tryd.zeroValue3
  t4 := Tryd.underlying4
  a4 := Tryd.isAgg4
  z4 := Tryd.sizeOf4
  v4 := Tryd.zeroValue4
  t9 := Tryd.underlying9
  a9 := Tryd.isAgg9
  z9 := Tryd.sizeOf9
  v9 := Tryd.zeroValue9
  t37 := Tryd.underlying32
  a37 := Tryd.isAgg32
  z37 := Tryd.sizeOf32
  v37 := Tryd.zeroValue32
  t93 := Tryd.underlying36
  a93 := Tryd.isAgg36
  z93 := Tryd.sizeOf36
  v93 := Tryd.zeroValue36
  t130 := Tryd.underlying44
  a130 := Tryd.isAgg44
  z130 := Tryd.sizeOf44
  v130 := Tryd.zeroValue44
  t5 := Tryd.underlying5
  a5 := Tryd.isAgg5
  z5 := Tryd.sizeOf5
  v5 := Tryd.zeroValue5
  t91 := Tryd.underlying34
  a91 := Tryd.isAgg34
  z91 := Tryd.sizeOf34
  v91 := Tryd.zeroValue34
  i0 := by kernel_rfl
  i3 := by kernel_rfl
  i4 := by kernel_rfl
  i5 := by kernel_rfl
  i9 := by kernel_rfl
  i37 := by kernel_rfl
  i91 := by kernel_rfl
  i93 := by kernel_rfl
  i130 := by kernel_rfl }
open Go.RowKit in
theorem Tryd.Buffer_String (B b : Nat) (l : List UInt8) (w : World) (h : Lib.IsBuffer 36 5 B b (Lib.byteCells l) w) :
    Calls Tryd.prog 14 #[.pointer (some ⟨b, 0, none⟩)] w fun e w' => e = .returned (.string ⟨l.toArray⟩) ∧ ∃ n, w' = w.drewN n := Any.Buffer_String Tryd.laysM182 B b l w h
def Tryd.laysM184_ren : Go.Shelf.Ren := ⟨fun | 184 => 15 | n => n, fun | 130 => 44 | 0 => 0 | 93 => 36 | 37 => 32 | 3 => 3 | 91 => 34 | 5 => 5 | n => n, fun | n => n⟩
theorem Tryd.laysM184 : Go.Proofs.LaysM.n184 Tryd.prog Tryd.laysM184_ren := {
  mixed := by kernel_rfl
  f184 := Tryd.func15.trans (congrArg some (by kernel_rfl))
  t0 := Tryd.underlying0
  a0 := Tryd.isAgg0
  z0 := Tryd.sizeOf0
  v0 := Tryd.zeroValue0
  t3 := Tryd.underlying3
  a3 := Tryd.isAgg3
  z3 := Tryd.sizeOf3
  v3 := Tryd.zeroValue3
  t37 := Tryd.underlying32
  a37 := Tryd.isAgg32
  z37 := Tryd.sizeOf32
  v37 := Tryd.zeroValue32
  t91 := Tryd.underlying34
  a91 := Tryd.isAgg34
  z91 := Tryd.sizeOf34
  v91 := Tryd.zeroValue34
  t93 := Tryd.underlying36
  a93 := Tryd.isAgg36
  z93 := Tryd.sizeOf36
  v93 := Tryd.zeroValue36
  t130 := Tryd.underlying44
  a130 := Tryd.isAgg44
  z130 := Tryd.sizeOf44
  v130 := Tryd.zeroValue44
  t5 := Tryd.underlying5
  a5 := Tryd.isAgg5
  z5 := Tryd.sizeOf5
  v5 := Tryd.zeroValue5
  i0 := by kernel_rfl
  i3 := by kernel_rfl
  i5 := by kernel_rfl
  i37 := by kernel_rfl
  i91 := by kernel_rfl
  i93 := by kernel_rfl
  i130 := by kernel_rfl }
open Go.RowKit in
theorem Tryd.Buffer_Reset_kept (B b : Nat) (bs : List Value) (w : World) (h : Lib.IsBuffer 36 5 B b bs w) :
    Calls Tryd.prog 15 #[.pointer (some ⟨b, 0, none⟩)] w fun e w' => e = .returned (.tuple #[]) ∧ Lib.IsBuffer 36 5 B b [] w' ∧ Below B w w' ∧ Lib.OthersKept 5 (some b) w w' := Any.Buffer_Reset_kept Tryd.laysM184 B b bs w h
open Go.RowKit in
theorem Tryd.Buffer_Reset_k (B b : Nat) (bs : List Value) (w : World) (h : Lib.IsBuffer 36 5 B b bs w) :
    Calls Tryd.prog 15 #[.pointer (some ⟨b, 0, none⟩)] w fun e w' => e = .returned (.tuple #[]) ∧ Lib.IsBuffer 36 5 B b [] w' ∧ Below B w w' ∧ Lib.OthersKept 5 (some b) w w' := Any.Buffer_Reset_k Tryd.laysM184 B b bs w h
def Tryd.laysWr5_ren : Go.Shelf.Ren := ⟨fun | 5 => 16 | 7 => 18 | 8 => 19 | 9 => 20 | 10 => 21 | 11 => 22 | 12 => 15 | 13 => 23 | 14 => 24 | 15 => 25 | n => n, fun | 34 => 44 | 21 => 21 | 3 => 3 | 28 => 39 | 35 => 45 | 4 => 4 | 5 => 5 | 0 => 0 | 26 => 36 | 24 => 34 | 37 => 47 | 22 => 32 | 43 => 31 | 20 => 20 | 31 => 37 | 9 => 9 | n => n, fun | 0 => 0 | n => n⟩
theorem Tryd.laysWr5 : Go.Proofs.LaysWr.n5 Tryd.prog Tryd.laysWr5_ren := {
  mixed := by kernel_rfl
  f5 := Tryd.func16.trans (congrArg some (by kernel_rfl))
  f7 := Tryd.func18.trans (congrArg some (by kernel_rfl))
  f8 := Tryd.func19.trans (congrArg some (by kernel_rfl))
  f9 := Tryd.func20.trans (congrArg some (by kernel_rfl))
  f10 := Tryd.func21.trans (congrArg some (by kernel_rfl))
  f11 := Tryd.func22.trans (congrArg some (by kernel_rfl))
  f12 := Tryd.func15.trans (congrArg some (by kernel_rfl))
  f13 := Tryd.func23.trans (congrArg some (by kernel_rfl))
  f14 := Tryd.func24.trans (congrArg some (by kernel_rfl))
  f15 := Tryd.func25.trans (congrArg some (by kernel_rfl))
  t0 := Tryd.underlying0
  a0 := Tryd.isAgg0
  z0 := Tryd.sizeOf0
  v0 := Tryd.zeroValue0
  i0 := by kernel_rfl
  t3 := Tryd.underlying3
  a3 := Tryd.isAgg3
  z3 := Tryd.sizeOf3
  v3 := Tryd.zeroValue3
  i3 := by kernel_rfl
  t4 := Tryd.underlying4
  a4 := Tryd.isAgg4
  z4 := Tryd.sizeOf4
  v4 := Tryd.zeroValue4
  i4 := by kernel_rfl
  t5 := Tryd.underlying5
  a5 := Tryd.isAgg5
  z5 := Tryd.sizeOf5
  v5 := Tryd.zeroValue5
  i5 := by kernel_rfl
  t9 := Tryd.underlying9
  a9 := Tryd.isAgg9
  z9 := Tryd.sizeOf9
  v9 := Tryd.zeroValue9
  i9 := by kernel_rfl
  t20 := Tryd.underlying20
  a20 := Tryd.isAgg20
  z20 := Tryd.sizeOf20
  v20 := Tryd.zeroValue20
  i20 := by kernel_rfl
  t21 := Tryd.underlying21
  a21 := Tryd.isAgg21
  z21 := Tryd.sizeOf21
  v21 := Tryd.zeroValue21
  i21 := by kernel_rfl
  t22 := Tryd.underlying32
  a22 := Tryd.isAgg32
  z22 := Tryd.sizeOf32
  v22 := Tryd.zeroValue32
  i22 := by kernel_rfl
  t24 := Tryd.underlying34
  a24 := Tryd.isAgg34
  z24 := Tryd.sizeOf34
  v24 := Tryd.zeroValue34
  i24 := by kernel_rfl
  t26 := Tryd.underlying36
  a26 := Tryd.isAgg36
  z26 := Tryd.sizeOf36
  v26 := Tryd.zeroValue36
  i26 := by kernel_rfl
  t28 := Tryd.underlying39
  a28 := Tryd.isAgg39
  z28 := Tryd.sizeOf39
  v28 := Tryd.zeroValue39
  i28 := by kernel_rfl
  t31 := Tryd.underlying37
  a31 := Tryd.isAgg37
  z31 := Tryd.sizeOf37
  v31 := Tryd.zeroValue37
  i31 := by kernel_rfl
  t34 := Tryd.underlying44
  a34 := Tryd.isAgg44
  z34 := Tryd.sizeOf44
  v34 := Tryd.zeroValue44
  i34 := by kernel_rfl
  t35 := Tryd.underlying45
  a35 := Tryd.isAgg45
  z35 := Tryd.sizeOf45
  v35 := Tryd.zeroValue45
  i35 := by kernel_rfl
  t37 := Tryd.underlying47
  a37 := Tryd.isAgg47
  z37 := Tryd.sizeOf47
  v37 := Tryd.zeroValue47
  i37 := by kernel_rfl
  t43 := Tryd.underlying31
  a43 := Tryd.isAgg31
  z43 := Tryd.sizeOf31
  v43 := Tryd.zeroValue31
  i43 := by kernel_rfl
  g0 := by kernel_rfl
  m0 := by kernel_rfl }
open Go.RowKit in
theorem Tryd.Buffer_WriteRune_k (B b : Nat) (bs : List Value) (r : Int) (hr0 : -2147483648 ≤ r) (hr1 : r ≤ 2147483647) (w : World) (h : Lib.IsBuffer 36 5 B b bs w) (hBw : B ≤ w.heap.size) (h1 : ∀ v ∈ bs, v.oneCell' = true) (hlim : bs.length + 4 ≤ 140737488355328) :
    Calls Tryd.prog 16 #[.pointer (some ⟨b, 0, none⟩), .int .i32 r] w fun e w' => e = .returned (.tuple #[.int .i64 (Lib.runeCells r).length, .nilIface]) ∧ Lib.IsBuffer 36 5 B b (bs ++ Lib.runeCells r) w' ∧ Below B w w' ∧ Lib.OthersKept 5 (some b) w w' := Any.Buffer_WriteRune_k Tryd.laysWr5 B b bs r hr0 hr1 w h hBw h1 hlim
end Go.Proofs
