/-
  FnLinesStripped: what the Buffer is given for a code point is its bytes.
-/
import Derived.Test.YthdlekfnmabldaaDoorStripSplit
import Derived.Lib.MapLaws
import Derived.Lib.TrimUEq
import Derived.Lib.RuneBytes
namespace Go.Proofs.YthdlekfnmabldaaDoor.fnLinesStripped
open Go Go.Proofs.YthdlekfnmabldaaDoor.fnEncodeExact
set_option maxRecDepth 100000

theorem rune_cells {s : ByteArray} {i r n : Nat} (hp : Piece s i r n) : Lib.runeCells (r : Int) = Lib.byteCells (enc r) := by
  have hd := Lib.decodeL_drop s i
  rw [hp.dec] at hd
  have hlen : (s.data.toList.drop i).length = s.size - i := by rw [List.length_drop]; simp
  have hf := hp.fits
  have hpos := hp.pos
  have hne : s.data.toList.drop i ≠ [] := by
    intro h
    rw [h] at hlen
    simp at hlen
    omega
  have hv : ¬ ((Lib.decodeL (s.data.toList.drop i)).1 = 65533 ∧ (Lib.decodeL (s.data.toList.drop i)).2 = 1) := by
    rw [hd]
    rintro ⟨h1, h2⟩
    have h3 := congrArg List.length hp.enc
    have h1' : r = 65533 := h1
    have h2' : n = 1 := h2
    subst h1' h2'
    rw [List.length_take] at h3
    have h4 : (Utf8.encode ((65533 : Nat) : Int)).data.toList.length = 3 := by decide +kernel
    omega
  have h := Lib.encode_decode _ hne hv
  rw [hd] at h
  have key : Lib.encodeRune (r : Int) = enc r := h.trans hp.enc.symm
  rw [← Lib.byteCells_encodeRune, key]
end Go.Proofs.YthdlekfnmabldaaDoor.fnLinesStripped
