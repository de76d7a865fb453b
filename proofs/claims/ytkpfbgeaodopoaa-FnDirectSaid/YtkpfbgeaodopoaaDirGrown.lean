/-
  FnDirect: sizes that fit are found to fit; the tree grows.
-/
import Derived.Test.YtkpfbgeaodopoaaDirJoin
import Derived.Deep.OwnRows
namespace Go.Proofs.Ytkpfbgeaodopoaa.fnDirect
open Go.RowKit
set_option linter.unusedSimpArgs false
set_option linter.unusedVariables false

/-- The nodes lie in memory. -/
def Lies (w : World) (a : Addr) (n : Nat) (E : Nat → Nd) : Prop := ∀ i, i < n → NdIn w (a.add (i * 5)) (E i)

theorem Lies.below {w w' : World} {a : Addr} {n : Nat} {E : Nat → Nd} (h : Lies w a n E) (hb : Below w.heap.size w w') : Lies w' a n E := fun i hi => (h i hi).below hb

set_option maxRecDepth 100000 in
set_option maxHeartbeats 1600000 in
theorem shaped_any (a : Addr) (n cap : Nat) (E : Nat → Nd) (w : World) (hf : Fit E n) (hn : n ≤ 400) (ht : Lies w a n E) :
    Calls Try.prog 30 #[.slice (some a) n cap] w fun e w' => e = .returned (.bool true) ∧ Below w.heap.size w w' := by
  have HT := Lib.hid ht
  have HF := Lib.hid hf
  obtain ⟨h0, h1, -⟩ := hf
  obtain ⟨-, -, -, -, p4⟩ := ht 0 h0
  rw [h1] at p4
  have h0' : (0 : Int) < n := by omega
  have h0'' : ¬ (n : Int) = 0 := by omega
  rw [Nat.zero_mul, Addr.add_zero'] at p4
  clear ht h1
  go_enter Try.func30, Try.ntmps30
  go_wp2
  go_loopw [21] (fun v wr => ∃ i : Nat, v = .int .i64 i ∧ i ≤ n ∧ Below w.heap.size w wr) (fun v _ => n - (intOf v).toNat)
  case atStart => exact ⟨0, rfl, Nat.zero_le _, Below.refl _ _⟩
  case round =>
    obtain ⟨i, rfl, hin, hbel⟩ := hrel
    have HTr := Lib.hid (HT.out.below hbel)
    have hsr := hbel.size
    by_cases hlt : i < n
    · obtain ⟨q0, q1, q2, q3, q4⟩ := HTr.out i hlt
      have hfi := HF.out.2.2 i hlt
      have HK := Lib.hid hfi.kin
      have hz := hfi.size
      have hz1 := hfi.pos
      have hz2 := hfi.2.1
      rw [hz] at q4
      have hb1 : Below wr.heap.size wr (wr.alloc (.cells #[.int .i64 (E i).kind, .int .i64 (E i).op, .string (E i).text, .int .i64 (E i).flag, .int .i64 (sz E i)] 28)) := by go_grown
      have HTa := Lib.hid (HTr.out.below hb1)
      clear hfi hz
      go_wp2
      go_region
      go_wp2
      go_loop [5] (fun v => ∃ (m : Nat) (l : List Nat), v = .int .i64 m ∧ Hid (Kin (sz E) m (i + sz E i) l)) (fun v => i + sz E i - (intOf v).toNat)
      case atStart => exact ⟨i + 1, _, by go_num, HK⟩
      case round =>
        obtain ⟨m, l, rfl, HM⟩ := hrel
        have hle := HM.out.le
        by_cases hm : m < i + sz E i
        · obtain ⟨l2, rfl⟩ := HM.out.head hm
          obtain ⟨-, m1, m2, HM2⟩ := HM.out.cons_inv
          have HM3 := Lib.hid HM2
          have hmn : m < n := by omega
          obtain ⟨-, -, -, -, r4⟩ := HTa.out m hmn
          have hsm := (HF.out.2.2 m hmn).size
          rw [hsm] at r4
          clear HM2 hsm
          go_wp2
          go_round
          case rel => exact ⟨m + sz E m, l2, by go_num, HM3⟩
          case measure => simp [intOf]; omega
        · go_wp2
          go_roundw
          case rel => exact ⟨_, _, _, _, _, _, ⟨i + 1, rfl, by omega, by go_grown⟩, rfl, rfl, rfl, rfl, rfl, by go_num⟩
          case measure => first | (simp [intOf]; done) | (simp [intOf]; omega)
    · obtain rfl : i = n := by omega
      go_wp2
      go_ret
      exact ⟨rfl, hbel⟩

theorem infoNode : (Try.prog.info? 42).map (fun i => (i.zero, i.size, i.bytes)) = some (some .nilIface, 1, 16) := by kernel_rfl

theorem made_at {z : Value} {n i : Nat} (hi : i < n) : (madeCells #[z] n)[i]? = some z := by
  unfold madeCells
  simp [hi, Nat.mod_one]

set_option maxRecDepth 100000 in
set_option maxHeartbeats 1600000 in
theorem grown_any (a : Addr) (n cap : Nat) (E : Nat → Nd) (w : World) (hT : Tree E n) (hn : n ≤ 400) (hc : cap ≤ maxLen) (ht : Lies w a n E) :
    Calls Try.prog 20 #[.slice (some a) n cap] w fun e w' => ∃ (c : Ctx) (w1 : World) (P : Nat → Value), c.E = E ∧ c.n = n ∧ e = .returned (.tuple #[.slice (some ⟨c.pb, 0, none⟩) n n, .bool true]) ∧ w.heap.size ≤ c.pb ∧ St c w1 (fun _ => .nilIface) 0 n w' P ∧ Below w.heap.size w w' := by
  have HT := Lib.hid ht
  have HF := Lib.hid hT
  obtain ⟨i0, hi, hz0, hz1, hz2⟩ := info_parts infoNode
  have hs := shaped_any a n cap E w hT.1 hn ht
  have HS := Lib.hid hs
  clear hs ht hT
  go_enter Try.func20, Try.ntmps20
  go_wp2_with (first | (go_at_call 30; refine HS.out.mono ?_; rintro e w1 ⟨rfl, hb1⟩) | (at_make; refine wpList_make_row _ rfl _ _ 38 rfl 42 i0 .nilIface Try.underlying38 hi hz0 hz1 rfl _ _ n rfl rfl (by rw [hz2]; omega) (by omega) ?_))
  obtain ⟨W, hW⟩ : ∃ W, (w1.alloc (.cells (madeCells #[.nilIface] n) 42)).alloc (.cells #[.slice (some a) n cap, .bool false, .bool false, .slice (some ⟨w1.heap.size, 0, none⟩) n n] 141) = W := ⟨_, rfl⟩
  rw [hW]
  have hwW := hb1.size
  have hbW : Below w.heap.size w W := by rw [← hW]; exact (hb1.alloc hwW _).alloc (by simp; omega) _
  have HLW := Lib.hid (HT.out.below hbW)
  have hpl : W.heap[w1.heap.size]? = some (.cells (madeCells #[.nilIface] n) 42 (0, 0)) := by rw [← hW]; exact block_alloc (block_new _ _) _
  have hbl : W.heap[w1.heap.size + 1]? = some (.cells #[.slice (some a) n cap, .bool false, .bool false, .slice (some ⟨w1.heap.size, 0, none⟩) n n] 141 (0, 0)) := by rw [← hW]; simpa using block_new (w1.alloc (.cells (madeCells #[.nilIface] n) 42)) _
  have hlow : a.block < w.heap.size := by
    have := World.block_lt_of_cell? _ _ (HT.out 0 HF.out.1.1).1
    rwa [add_block] at this
  obtain ⟨c, hc⟩ : ∃ c : Ctx, c = ⟨w1.heap.size + 1, w1.heap.size, a, n, cap, E⟩ := ⟨_, rfl⟩
  have hB : Bld c W (fun _ => .nilIface) := by
    subst hc
    exact ⟨hbl, ⟨_, hpl, fun i hi => made_at hi⟩, HLW.out, by show a.block ≠ w1.heap.size; omega⟩
  have hsz : sz E 0 = n := by have := HF.out.1.2.1; unfold sz; omega
  have HC := Lib.hid (node_all c (by subst hc; exact HF.out.1) (by subst hc; exact HF.out.2.2) (by subst hc; exact hn) n 0 W _ (by subst hc; exact HF.out.1.1) (by subst hc; exact HF.out.2.1) (by subst hc; exact Nat.le_of_eq hsz) hB)
  have e1 : c.bb = w1.heap.size + 1 := by rw [hc]
  have e2 : c.pb = w1.heap.size := by rw [hc]
  have e3 : c.a = a := by rw [hc]
  have e4 : c.n = n := by rw [hc]
  have e5 : c.E = E := by rw [hc]
  have e6 : c.cap = cap := by rw [hc]
  rw [← e1]
  have HE := Lib.hid (And.intro e2 (And.intro e4 (And.intro e5 (And.intro e6 e1))))
  have hpW : w1.heap.size < W.heap.size := lt_of_block hpl
  clear hW hpl hbl hc hB e1 e2 e3 e4 e5 e6
  go_wp2_with (go_at_call 31; refine HC.out.mono ?_; rintro e w2 ⟨P', rfl, h2⟩; have f2 := h2.bld.c2; have f3 := h2.bld.c3; have H2 := Lib.hid h2; clear h2)
  go_region
  go_wp2
  go_ret2
  obtain ⟨e2, e4, e5, e6, e1⟩ := HE.out
  have hst := H2.out.below (w2 := w2.drew) ((Below.refl _ _).drew)
  refine ⟨c, W, P', e5, e4, by rw [e4]; rfl, by rw [e2]; exact hwW, ?_, ?_⟩
  · rwa [show (0 : Nat) + sz c.E 0 = n by rw [e5, hsz, Nat.zero_add]] at hst
  · exact hbW.grown hst.grown hbW.size (fun k hk => by cases hk; rw [e2]; exact hwW)
end Go.Proofs.Ytkpfbgeaodopoaa.fnDirect
