/-
  FnSeen, FnStepsRemoved: the thin package's steps, handed on to the package.
-/
import Derived.Test.YtbdadgkjiondgaaDoorSeeChain2
namespace Go.Proofs.YtbdadgkjiondgaaDoor.see
open Go.RowKit Go.Maps Go.WideMaps
set_option linter.unusedSimpArgs false
set_option linter.unusedVariables false

/-- A step of the thin package, and where its names and ways lie. -/
structure PE where
  is : Bool
  rem : ByteArray
  n : Nat
  na : Option Addr
  nc : Nat
  S : Nat → ByteArray
  m : Nat
  ha : Option Addr
  hc : Nat
  H : Nat → Int

def PeIn (w : World) (a : Addr) (e : PE) : Prop :=
  w.cell? a = some (.bool e.is) ∧ w.cell? ⟨a.block, a.off + 1, none⟩ = some (.string e.rem) ∧ w.cell? ⟨a.block, a.off + 2, none⟩ = some (.slice e.na e.n e.nc) ∧ w.cell? ⟨a.block, a.off + 3, none⟩ = some (.slice e.ha e.m e.hc) ∧ StrsIn w e.na e.n e.nc e.S ∧ IntsIn w e.ha e.m e.hc e.H

def PesIn (w : World) (c : Option Addr) (len cap : Nat) (E : Nat → PE) : Prop :=
  (c = none ∧ len = 0 ∧ cap = 0) ∨ ∃ a, c = some a ∧ len ≤ cap ∧ cap ≤ maxLen ∧ ∀ i, i < len → PeIn w (a.add (i * 4)) (E i)

theorem PeIn.below {w w' : World} {a : Addr} {e : PE} (h : PeIn w a e) (hb : Below w.heap.size w w') : PeIn w' a e := by
  obtain ⟨h0, h1, h2, h3, h4, h5⟩ := h
  exact ⟨cell_later hb h0, cell_later hb h1, cell_later hb h2, cell_later hb h3, h4.below hb, h5.below hb⟩

theorem PesIn.below {w w' : World} {c : Option Addr} {len cap : Nat} {E : Nat → PE} (h : PesIn w c len cap E) (hb : Below w.heap.size w w') : PesIn w' c len cap E := by
  rcases h with h | ⟨a, rfl, h1, h2, h3⟩
  · exact .inl h
  · exact .inr ⟨a, rfl, h1, h2, fun i hi => (h3 i hi).below hb⟩

theorem PesIn.at {w : World} {c : Option Addr} {len cap : Nat} {E : Nat → PE} (h : PesIn w c len cap E) {i : Nat} (hi : i < len) : ∃ a, c = some a ∧ PeIn w (a.add (i * 4)) (E i) := by
  rcases h with ⟨-, h0, -⟩ | ⟨a, rfl, h1, h2, h3⟩
  · omega
  · exact ⟨a, rfl, h3 i hi⟩

/-- Short enough, and codes. -/
structure PeOk (e : PE) : Prop where
  same : e.m = e.n
  rem : e.rem.size ≤ 2147483647
  strs : ∀ i, i < e.n → (e.S i).size ≤ 2147483647
  ok : SpOk ⟨e.is, e.rem.data.toList, e.n, fun i => (e.S i).data.toList, e.H⟩

def spP (e : PE) : Sp := ⟨e.is, e.rem.data.toList, e.n, fun i => (e.S i).data.toList, e.H⟩

theorem hides_any (h : Int) (hc : Code h) (w : World) : Calls Tryd.prog 21 #[.int .i64 h] w fun e w' => e = .returned (.tuple #[.int .i64 (conv h), .bool true]) ∧ w = w' := by
  rcases hc with rfl | rfl | rfl
  all_goals
    go_enter Tryd.func21, Tryd.ntmps21
    go_wp2
    go_ret2
    exact ⟨rfl, rfl⟩

theorem seen_any (h : Int) (hc : Code h) (w : World) : Calls Tryd.prog 16 #[.int .i64 (conv h)] w fun e w' => e = .returned (.int .i64 h) ∧ w = w' := by
  rcases hc with rfl | rfl | rfl
  all_goals
    simp only [conv]
    go_enter Tryd.func16, Tryd.ntmps16
    go_wp2
    go_ret
    exact ⟨rfl, rfl⟩

def ceCells (e : PE) (h : Value) : List Value := [.string e.rem, .slice e.na e.n e.nc, h, .bool e.is]

/-- The cells of the first k steps. -/
def ces (E : Nat → PE) (hv : Nat → Value) (k : Nat) : List Value := (List.range k).flatMap fun j => ceCells (E j) (hv j)

theorem ces_succ (E : Nat → PE) (hv : Nat → Value) (k : Nat) : ces E hv (k + 1) = ces E hv k ++ ceCells (E k) (hv k) := by
  unfold ces
  rw [List.range_succ, List.flatMap_append]
  simp

theorem ces_length (E : Nat → PE) (hv : Nat → Value) (k : Nat) : (ces E hv k).length = k * 4 := by
  induction k with
  | zero => rfl
  | succ k ih => rw [ces_succ, List.length_append, ih]; simp [ceCells]; omega

theorem ces_get (E : Nat → PE) (hv : Nat → Value) {k : Nat} (j q : Nat) (hj : j < k) (hq : q < 4) : (ces E hv k)[j * 4 + q]? = (ceCells (E j) (hv j))[q]? := by
  induction k with
  | zero => omega
  | succ k ih =>
    have hl := ces_length E hv k
    rw [ces_succ]
    by_cases h : j < k
    · rw [List.getElem?_append_left (by omega)]
      exact ih h
    · obtain rfl : j = k := by omega
      rw [List.getElem?_append_right (by omega), hl]
      congr 1
      omega

theorem ces_congr {E : Nat → PE} {hv hv' : Nat → Value} {k : Nat} (h : ∀ j, j < k → hv j = hv' j) : ces E hv k = ces E hv' k := by
  induction k with
  | zero => rfl
  | succ k ih => rw [ces_succ, ces_succ, ih (fun j hj => h j (by omega)), h k (by omega)]

/-- The first k ways, as the package writes them. -/
def ways (H : Nat → Int) (k : Nat) : List Value := (List.range k).map fun i => .int .i64 (conv (H i))

theorem ways_succ (H : Nat → Int) (k : Nat) : ways H (k + 1) = ways H k ++ [.int .i64 (conv (H k))] := by
  unfold ways
  rw [List.range_succ, List.map_append]
  rfl

theorem ways_in {w : World} {B n : Nat} {e : TypeId} {v : Value} {H : Nat → Int} (h : w.ownsRow B e 1 v n (ways H n)) : ∃ c cap, v = .slice c n cap ∧ IntsIn w c n cap (fun i => conv (H i)) := by
  rcases own_form h with ⟨rfl, rfl⟩ | ⟨g, cap, rfl, h1, h2, h3, h4⟩
  · exact ⟨_, _, rfl, .inl ⟨rfl, rfl, rfl⟩⟩
  · refine ⟨_, _, rfl, .inr ⟨_, rfl, h3, h4, fun j hj => ⟨h2, ?_⟩⟩⟩
    have := World.ownsRow.cellAt h j (by omega)
    have e1 : (⟨g, 0, none⟩ : Addr).add j = ⟨g, j, none⟩ := by
      unfold Addr.add
      split
      · rename_i h; subst h; rfl
      · simp
    rw [e1]
    refine this.trans ?_
    unfold ways
    rw [List.getElem?_map, List.getElem?_range hj]
    rfl

theorem add_at (g i q : Nat) (hq : 0 < q) : (⟨((⟨g, 0, none⟩ : Addr).add i).block, ((⟨g, 0, none⟩ : Addr).add i).off + q, none⟩ : Addr) = ⟨g, i + q, none⟩ := by
  unfold Addr.add
  split
  · rename_i h; subst h; simp
  · simp

theorem add_at0 (g i : Nat) : (⟨g, 0, none⟩ : Addr).add i = ⟨g, i, none⟩ := by
  unfold Addr.add
  split
  · rename_i h; subst h; rfl
  · simp

/-- What the package is handed. -/
noncomputable def ceOf (P : Nat → PE) (ha : Nat → Option Addr) (hc : Nat → Nat) : Nat → CE := fun i => ⟨(P i).rem, (P i).n, (P i).na, (P i).nc, (P i).S, ha i, hc i, (P i).H, (P i).is⟩

theorem row_ces {w : World} {B n : Nat} {e : TypeId} {v : Value} {P : Nat → PE} {hv : Nat → Value} (h : w.ownsRow B e 4 v n (ces P hv n)) (hs : ∀ j, j < n → StrsIn w (P j).na (P j).n (P j).nc (P j).S) {B2 : Nat → Nat} {e2 : TypeId} (hh : ∀ j, j < n → w.ownsRow (B2 j) e2 1 (hv j) (P j).n (ways (P j).H (P j).n)) :
    ∃ c cap ha hc, v = .slice c n cap ∧ CesIn w c n cap (ceOf P ha hc) := by
  have hx : ∀ j, ∃ ah : Option Addr × Nat, j < n → hv j = .slice ah.1 (P j).n ah.2 ∧ IntsIn w ah.1 (P j).n ah.2 (fun i => conv ((P j).H i)) := fun j => by
    by_cases hj : j < n
    · obtain ⟨c, cap, h1, h2⟩ := ways_in (hh j hj)
      exact ⟨(c, cap), fun _ => ⟨h1, h2⟩⟩
    · exact ⟨(none, 0), fun h => absurd h hj⟩
  obtain ⟨F, hF⟩ := Classical.axiomOfChoice hx
  rcases own_form h with ⟨rfl, rfl⟩ | ⟨g, cap, rfl, h1, h2, h3, h4⟩
  · exact ⟨_, _, fun j => (F j).1, fun j => (F j).2, rfl, .inl ⟨rfl, rfl, rfl⟩⟩
  · refine ⟨_, _, fun j => (F j).1, fun j => (F j).2, rfl, .inr ⟨_, rfl, h3, h4, fun j hj => ?_⟩⟩
    have hc : ∀ q, q < 4 → w.cell? ⟨g, j * 4 + q, none⟩ = (ceCells (P j) (hv j))[q]? := fun q hq => (World.ownsRow.cellAt h (j * 4 + q) (by omega)).trans (ces_get P hv j q hj hq)
    obtain ⟨hv1, hv2⟩ := hF j hj
    refine ⟨?_, ?_, ?_, ?_, hs j hj, hv2⟩
    · rw [add_at0]; exact hc 0 (by omega)
    · rw [add_at _ _ _ (by omega)]; exact hc 1 (by omega)
    · rw [add_at _ _ _ (by omega)]
      refine (hc 2 (by omega)).trans ?_
      simp [ceCells, hv1, ceOf]
    · rw [add_at _ _ _ (by omega)]; exact hc 3 (by omega)

theorem infoInt : (Tryd.prog.info? 3).map (fun i => (i.zero, i.size, i.bytes)) = some (some (.int .i64 0), 1, 8) := by kernel_rfl
theorem infoStr : (Tryd.prog.info? 9).map (fun i => (i.zero, i.size, i.bytes)) = some (some (.string ⟨#[]⟩), 1, 16) := by kernel_rfl
theorem infoCs : (Tryd.prog.info? 56).map (fun i => (i.zero, i.size, i.bytes)) = some (some (.agg #[.string ⟨#[]⟩, .slice none 0 0, .slice none 0 0, .bool false]), 4, 72) := by kernel_rfl

set_option maxRecDepth 100000 in
set_option maxHeartbeats 1600000 in
theorem implChain_any (c : Option Addr) (len cap : Nat) (P : Nat → PE) (w : World) (h : PesIn w c len cap P) (hlen : len ≤ 20) (hok : ∀ i, i < len → PeOk (P i)) :
    Calls Tryd.prog 13 #[.slice c len cap] w
    fun e w' => ∃ c' cap' ha hc, e = .returned (.tuple #[.slice c' len cap', .bool true]) ∧ CesIn w' c' len cap' (ceOf P ha hc) ∧ Below w.heap.size w w' := by
  have HS := Lib.hid h
  have HO := Lib.hid hok
  clear h hok
  go_enter Tryd.func13, Tryd.ntmps13
  go_wp2_with fail
  go_loopw [4, 14] (fun v i wr => ∃ (k : Nat) (hv : Nat → Value), k ≤ len ∧ i = .int .i64 k ∧ wr.ownsRow w.heap.size 56 4 v k (ces P hv k) ∧ (∀ j, j < k → wr.ownsRow w.heap.size 3 1 (hv j) (P j).n (ways (P j).H (P j).n)) ∧ Below w.heap.size w wr) (fun _ i _ => len - (intOf i).toNat)
  case atStart => exact ⟨0, fun _ => .nilIface, Nat.zero_le _, rfl, World.ownsRow_nil _ _ _ _, fun j hj => absurd hj (by omega), by go_grown⟩
  case round =>
    obtain ⟨k, hv, hk, rfl, hrow, hws, hbel⟩ := hrel
    have HR := Lib.hid hrow
    have HW := Lib.hid hws
    have hsz := hbel.size
    clear hrow hws
    rename World => W0
    by_cases hlt : k < len
    · obtain ⟨a, rfl, hc⟩ := HS.out.at hlt
      obtain ⟨q0, q1, q2, q3, -, q5⟩ := hc.below hbel
      have HQ := Lib.hid q5
      clear q5 hc
      obtain ⟨hmn, -, -, hsp⟩ := HO.out k hlt
      have hcode : ∀ i, i < (P k).n → Code ((P k).H i) := hsp.code
      have HC := Lib.hid hcode
      have hfew : (P k).n ≤ 12 := hsp.few
      rw [hmn] at q3 HQ
      clear hsp hcode hmn
      have hb1 : Below W0.heap.size W0 ((W0.alloc (.cells #[.bool (P k).is, .string (P k).rem, .slice (P k).na (P k).n (P k).nc, .slice (P k).ha (P k).n (P k).hc] 35)).alloc (.cells #[.string (P k).rem, .slice (P k).na (P k).n (P k).nc, .slice none 0 0, .bool (P k).is] 56)) := by go_grown
      have HQ2 := Lib.hid (HQ.out.below hb1)
      have hs1 := hb1.size
      go_wp2_with fail
      go_loopw [35] (fun i wi => ∃ (j : Nat) (hj : Value), j ≤ (P k).n ∧ i = .int .i64 j ∧ wi.heap[W0.heap.size + 1]? = some (.cells #[.string (P k).rem, .slice (P k).na (P k).n (P k).nc, hj, .bool (P k).is] 56 (0, 0)) ∧ wi.ownsRow (W0.heap.size + 2) 3 1 hj j (ways (P k).H j) ∧ Below (W0.heap.size + 1) (W0.alloc (.cells #[.bool (P k).is, .string (P k).rem, .slice (P k).na (P k).n (P k).nc, .slice (P k).ha (P k).n (P k).hc] 35)) wi) (fun i _ => (P k).n - (intOf i).toNat)
      case atStart => exact ⟨0, .slice none 0 0, Nat.zero_le _, rfl, block_new' (by simp) _, World.ownsRow_nil _ _ _ _, by go_grown⟩
      case round =>
        obtain ⟨j, hj, hjn, rfl, hblk, hrj, hbi0⟩ := hrel
        have hbi : Below W0.heap.size W0 wr := (show Below W0.heap.size W0 (W0.alloc (.cells #[.bool (P k).is, .string (P k).rem, .slice (P k).na (P k).n (P k).nc, .slice (P k).ha (P k).n (P k).hc] 35)) by go_grown).trans (hbi0.mono (by omega))
        have HJ := Lib.hid hrj
        have HBk := Lib.hid hblk
        have HBI := Lib.hid hbi0
        have hxl := lt_of_block hblk
        have hxl2 : W0.heap.size + 2 ≤ wr.heap.size := by omega
        clear hrj hbi0
        by_cases hltj : j < (P k).n
        · obtain ⟨a2, ha2, hc2⟩ := HQ.out.at hltj
          have d1 := cell_later hbi hc2
          have hcd := HC.out j hltj
          have x2 := cell_of_block (i := 2) hblk rfl
          have HWS := Lib.hid (ways_succ (P k).H j)
          have HA2 := Lib.hid ha2
          rw [ha2]
          clear hblk hc2 ha2
          obtain ⟨ao, cp, rfl⟩ := owns_slice HJ.out
          go_wp2_with (first
            | (go_at_call 21; refine (hides_any _ hcd _).mono ?_; rintro e w1 ⟨rfl, rfl⟩)
            | (at_builtin; refine wpList_append_run rfl (.tmp 47) (.tmp 49) 25 rfl (app1 (wr := wr) (B := W0.heap.size + 2) 25 25 3 Tryd.underlying25 infoInt rfl HJ.out hxl2 (grown_of_below (by go_grown)) (by omega) (by omega) (.int .i64 (conv ((P k).H j))) rfl _ _ (cell_at_new (by simp))) ?_; rintro v1 w2 ⟨hown2, hg, hbb⟩; obtain ⟨ao2, cp2, rfl⟩ := owns_slice hown2; have hbk := block_grown (block_alloc HBk.out (.cells #[.int .i64 (conv ((P k).H j))] 3)) hg (own_block_ne HJ.out HBk.out (by decide)); have y2 := cell_of_block (i := 2) hbk rfl; have z2 := free_of_block (i := 2) hbk; have HB2 := Lib.hid hbk; have HO2 := Lib.hid hown2; have HG2 := Lib.hid hg; have HBB := Lib.hid hbb; clear hbk hown2 hg hbb))
          go_roundw
          case rel =>
            have hrow2 : w2.ownsRow (W0.heap.size + 2) 3 1 (.slice ao2 (j + 1) cp2) (j + 1) (ways (P k).H (j + 1)) := by rw [HWS.out]; exact HO2.out
            have hbi2 := HBI.out
            rw [HA2.out] at hbi2
            have hB2 := (hbi2.alloc (by omega) (.cells #[.int .i64 (conv ((P k).H j))] 3)).grown HG2.out (by simp; omega) (fun b hb => by have := (HBB.out b hb).1; omega)
            exact ⟨j + 1, _, by omega, by go_num, block_setCell HB2.out, own_set hrow2 (by simp) _, hB2.setCell (by simp) _⟩
          case measure => first | (simp [intOf]; done) | (simp [intOf]; omega)
        · obtain rfl : j = (P k).n := by omega
          have x0 := cell_of_block (i := 0) hblk rfl
          have x1 := cell_of_block (i := 1) hblk rfl
          have x2 := cell_of_block (i := 2) hblk rfl
          have x3 := cell_of_block (i := 3) hblk rfl
          have hB1 : w.heap.size ≤ wr.heap.size := by omega
          have HR2 := Lib.hid (own_below HR.out hbi)
          have HCS := Lib.hid (ces_succ P hv k)
          have HBL := Lib.hid hbel
          have HB3 := Lib.hid hbi
          clear hblk hbel hbi
          obtain ⟨ao, cp, rfl⟩ := owns_slice HR2.out
          go_wp2_with (at_builtin; refine wpList_append_run rfl (.tmp 53) (.tmp 55) 38 rfl (appS (wr := wr) (B := w.heap.size) 38 38 56 Tryd.underlying38 infoCs rfl (by decide) HR2.out hB1 (grown_of_below (by go_grown)) (by omega) (by omega) (ceCells (P k) hj) rfl (by intro u hu; obtain ⟨a3, c3, rfl⟩ := owns_slice HJ.out; simp [ceCells] at hu; rcases hu with rfl | rfl | rfl | rfl <;> rfl) _ _ (cells_new (by simp))) ?_; rintro v1 w2 ⟨hown2, hg, hbb⟩; have HO2 := Lib.hid hown2; have HG2 := Lib.hid hg; have HBB := Lib.hid hbb; clear hown2 hg hbb)
          go_roundw
          case rel =>
            have hcells : ces P (fun i => if i = k then hj else hv i) (k + 1) = ces P hv k ++ ceCells (P k) hj := by
              rw [ces_succ, if_pos rfl, ces_congr (hv := fun i => if i = k then hj else hv i) (hv' := hv) (fun j hjk => if_neg (by omega))]
            refine ⟨k + 1, fun i => if i = k then hj else hv i, by omega, by go_num, by rw [hcells]; exact HO2.out, fun j hjk => ?_, ?_⟩
            · by_cases hjk2 : j = k
              · subst hjk2
                simp only [if_true]
                have hr1 := owns_mono HJ.out (B' := w.heap.size) (by omega)
                exact ((own_below hr1 (by go_grown)).kept HG2.out (own_ne hr1 HR2.out (by decide)))
              · simp only [hjk2, if_false]
                have hr1 := own_below (HW.out j (by omega)) HB3.out
                exact ((own_below hr1 (by go_grown)).kept HG2.out (own_ne hr1 HR2.out (by decide)))
            · exact ((HBL.out.trans (HB3.out.mono hsz)).alloc (by omega) _).grown HG2.out (by simp; omega) (fun b hb => (HBB.out b hb).1)
          case measure => first | (simp [intOf]; done) | (simp [intOf]; omega)
    · obtain rfl : k = len := by omega
      obtain ⟨c', cap', ha, hc, rfl, hin⟩ := row_ces HR.out (fun j hj => by
        obtain ⟨a, -, hp⟩ := HS.out.at hj
        exact hp.2.2.2.2.1.below hbel) (B2 := fun _ => w.heap.size) HW.out
      go_wp2
      go_ret2
      exact ⟨_, _, ha, hc, rfl, hin, hbel⟩
end Go.Proofs.YtbdadgkjiondgaaDoor.see
