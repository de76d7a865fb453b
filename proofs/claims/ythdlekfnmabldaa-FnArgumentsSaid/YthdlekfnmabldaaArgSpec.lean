/-
  FnArguments: what the specification's code computes.
-/
import Derived.Test.YthdlekfnmabldaaArgLaw
namespace Go.Proofs.Ythdlekfnmabldaa.fnArguments
open Go.RowKit
set_option linter.unusedSimpArgs false
set_option linter.unusedVariables false

theorem StrsIn.at {w : World} {c : Option Addr} {len cap : Nat} {S : Nat → ByteArray} (h : StrsIn w c len cap S) {j : Nat} (hj : j < len) : ∃ a, c = some a ∧ w.cell? (a.add j) = some (.string (S j)) := by
  rcases h with ⟨-, h0, -⟩ | ⟨a, rfl, h1, h2, h3⟩
  · omega
  · exact ⟨a, rfl, (h3 j hj).2⟩

theorem place_any (c : Option Addr) (len cap : Nat) (S : Nat → ByteArray) (nm : ByteArray) (w : World) (h : StrsIn w c len cap S) (hl : len ≤ 100) :
    Calls Try.prog 34 #[.slice c len cap, .string nm] w fun e w' => (∃ r : Int, e = .returned (.int .i64 r) ∧ ((r = -1 ∧ ∀ j, j < len → S j ≠ nm) ∨ ∃ j : Nat, j < len ∧ r = j ∧ S j = nm)) ∧ Below w.heap.size w w' := by
  have H := Lib.hid h
  clear h
  go_enter Try.func34, Try.ntmps34
  go_wp2_with fail
  go_loopw [5] (fun i wr => ∃ k : Nat, k ≤ len ∧ i = .int .i64 k ∧ Below w.heap.size w wr ∧ Hid (∀ j, j < k → S j ≠ nm)) (fun i _ => len - (intOf i).toNat)
  case atStart => exact ⟨0, Nat.zero_le _, rfl, by go_grown, Lib.hid (fun j hj => absurd hj (by omega))⟩
  case round =>
    obtain ⟨k, hk, rfl, hbel, HQ⟩ := hrel
    by_cases hlt : k < len
    · obtain ⟨a, rfl, hc⟩ := StrsIn.at H.out hlt
      have c1 := cell_later hbel hc
      by_cases he : S k = nm
      · have he' := seq_true he
        go_wp2
        go_ret
        exact ⟨⟨k, rfl, .inr ⟨k, hlt, rfl, he⟩⟩, by go_grown⟩
      · have HQ' : Hid (∀ j, j < k + 1 → S j ≠ nm) := Lib.hid (fun j hj => by
          by_cases hjk : j = k
          · subst hjk; exact he
          · exact HQ.out j (by omega))
        have he' := seq_false he
        clear he
        go_wp2
        go_roundw
        case rel => exact ⟨k + 1, by omega, by go_num, by go_grown, HQ'⟩
        case measure => first | (simp [intOf]; done) | (simp [intOf]; omega)
    · obtain rfl : k = len := by omega
      go_wp2
      go_ret
      exact ⟨⟨-1, rfl, .inl ⟨rfl, HQ.out⟩⟩, hbel⟩

/-- The names that are given are those of params that have no argument yet. -/
def Good (n : Nat) (p : Int) (P : Nat → ByteArray) (m : Nat) (N : Nat → ByteArray) : Prop := p ≤ n ∧ ∀ k, k < m → ∃ a : Nat, p ≤ a ∧ a < n ∧ P a = N k

/-- This param has an argument, of the first k names. -/
def Has (p : Int) (P : Nat → ByteArray) (k : Nat) (N : Nat → ByteArray) (i : Nat) : Prop := (i : Int) < p ∨ ∃ q, q < k ∧ N q = P i

theorem infoInt : (Try.prog.info? 3).map (fun i => (i.zero, i.size, i.bytes)) = some (some (.int .i64 0), 1, 8) := by kernel_rfl

def ints (G : Nat → Int) (k : Nat) : List Value := (List.range k).map fun j => .int .i64 (G j)

theorem ints_succ (G : Nat → Int) (k : Nat) : ints G (k + 1) = ints G k ++ [.int .i64 (G k)] := by
  unfold ints
  rw [List.range_succ, List.map_append]
  rfl

theorem ints_get (G : Nat → Int) {k j : Nat} (h : j < k) : (ints G k)[j]? = some (.int .i64 (G j)) := by
  unfold ints
  rw [List.getElem?_map, List.getElem?_range h]
  rfl

theorem ints_set (G : Nat → Int) (n j : Nat) (x : Int) (hj : j < n) : (ints G n).set j (.int .i64 x) = ints (fun i => if i = j then x else G i) n := by
  apply List.ext_getElem?
  intro i
  rw [List.getElem?_set]
  have hl : ∀ G, (ints G n).length = n := fun G => by simp [ints]
  by_cases hi : i < n
  · rw [ints_get _ hi]
    by_cases hij : j = i
    · subst hij
      rw [if_pos rfl, if_pos (by rw [hl]; exact hj)]
      rw [ints_get _ hj]
      show _ = some (Value.int .i64 (if j = j then x else G j))
      rw [if_pos rfl]
    · rw [if_neg hij, ints_get _ hi]
      show _ = some (Value.int .i64 (if i = j then x else G i))
      rw [if_neg (fun h => hij h.symm)]
  · have h1 : (ints G n)[i]? = none := List.getElem?_eq_none (by rw [hl]; omega)
    have h2 : (ints (fun i => if i = j then x else G i) n)[i]? = none := List.getElem?_eq_none (by rw [hl]; omega)
    rw [h1, h2, if_neg (by omega)]

/-- The numbers at the beginning. -/
def first (p : Int) (i : Nat) : Int := if (i : Int) < p then i else -1

set_option maxRecDepth 100000 in
theorem given_any (cp : Option Addr) (n capp : Nat) (P : Nat → ByteArray) (p : Int) (cn : Option Addr) (m capn : Nat) (N : Nat → ByteArray) (w : World) (hP : StrsIn w cp n capp P) (hN : StrsIn w cn m capn N) (nP : Names n P) (nN : Names m N) (hp : 0 ≤ p) (hp2 : p ≤ 200) :
    Calls Try.prog 28 #[.slice cp n capp, .int .i64 p, .slice cn m capn] w fun e w' => (∃ v b, e = .returned (.tuple #[v, .bool b]) ∧ ((b = false ∧ v = .slice none 0 0 ∧ ¬ Good n p P m N) ∨ b = true ∧ Good n p P m N ∧ ∃ G, w'.ownsRow w.heap.size 3 1 v n (ints G n) ∧ ∀ i, i < n → (0 ≤ G i ↔ Has p P m N i))) ∧ Below w.heap.size w w' := by
  have hn := nP.few
  have hm := nN.few
  by_cases h1 : (n : Int) < p
  · have HF : Hid (¬ Good n p P m N) := Lib.hid (fun h => by have := h.1; omega)
    clear hP hN
    go_enter Try.func28, Try.ntmps28
    go_wp2
    go_ret2
    exact ⟨⟨_, false, rfl, .inl ⟨rfl, rfl, HF.out⟩⟩, by go_grown⟩
  have HP := Lib.hid hP
  have HN := Lib.hid hN
  have HNP := Lib.hid nP
  have HNN := Lib.hid nN
  clear hP hN nP nN
  go_enter Try.func28, Try.ntmps28
  go_wp2_with fail
  go_loopw [8, 9] (fun v i wr => ∃ k : Nat, k ≤ n ∧ i = .int .i64 k ∧ wr.ownsRow w.heap.size 3 1 v k (ints (first p) k) ∧ Below w.heap.size w wr) (fun _ i _ => n - (intOf i).toNat)
  case atStart => exact ⟨0, Nat.zero_le _, rfl, World.ownsRow_nil _ _ _ _, by go_grown⟩
  case round =>
    obtain ⟨k, hk, rfl, hown, hbel⟩ := hrel
    have hsz := hbel.size
    have HO := Lib.hid hown
    clear hown
    by_cases hlt : k < n
    · have hf := Lib.hid (ints_succ (first p) k)
      by_cases hq : (k : Int) < p
      · have HX : Hid (first p k = k) := Lib.hid (by unfold first; rw [if_pos hq])
        go_wp2_with (at_builtin; refine wpList_append_run rfl (.tmp 25) (.tmp 27) 51 rfl (app1 (wr := wr) (B := w.heap.size) 51 51 3 Try.underlying51 infoInt rfl HO.out hsz (World.grownBy_alloc _ _ none) (by omega) (by omega) (.int .i64 k) rfl _ _ (cell_at rfl rfl)) ?_; rintro v1 w2 ⟨hown, hg, hb⟩)
        go_roundw
        case rel => exact ⟨k + 1, by omega, by go_num, by rw [hf.out, HX.out]; exact hown, (hbel.grown (World.grownBy_alloc _ _ none) hsz (fun b hb => by cases hb)).grown hg (by simp; omega) (fun b h => (hb b h).1)⟩
        case measure => first | (simp [intOf]; done) | (simp [intOf]; omega)
      · have HX : Hid (first p k = -1) := Lib.hid (by unfold first; rw [if_neg hq])
        go_wp2_with (at_builtin; refine wpList_append_run rfl (.tmp 29) (.tmp 30) 51 rfl (app1 (wr := wr) (B := w.heap.size) 51 51 3 Try.underlying51 infoInt rfl HO.out hsz (World.grownBy_alloc _ _ none) (by omega) (by omega) (.int .i64 (-1)) rfl _ _ (cell_at rfl rfl)) ?_; rintro v1 w2 ⟨hown, hg, hb⟩)
        go_roundw
        case rel => exact ⟨k + 1, by omega, by go_num, by rw [hf.out, HX.out]; exact hown, (hbel.grown (World.grownBy_alloc _ _ none) hsz (fun b hb => by cases hb)).grown hg (by simp; omega) (fun b h => (hb b h).1)⟩
        case measure => first | (simp [intOf]; done) | (simp [intOf]; omega)
    · obtain rfl : k = n := by omega
      obtain ⟨ao, cpo, rfl⟩ := owns_slice HO.out
      go_wp2_with fail
      have hfr : Hid (∀ i, i < k → (0 ≤ first p i ↔ Has p P 0 N i)) := Lib.hid (fun i hi => by
        unfold first Has
        by_cases hip : (i : Int) < p
        · rw [if_pos hip]
          exact ⟨fun _ => .inl hip, fun _ => by omega⟩
        · rw [if_neg hip]
          refine ⟨fun h => by omega, fun h => ?_⟩
          rcases h with h | ⟨q, hq, -⟩
          · exact absurd h hip
          · omega)
      clear hk hlt
      go_loopw [10] (fun i ws => ∃ q : Nat, q ≤ m ∧ i = .int .i64 q ∧ (∃ G, ws.ownsRow w.heap.size 3 1 (.slice ao k cpo) k (ints G k) ∧ Hid (∀ i, i < k → (0 ≤ G i ↔ Has p P q N i))) ∧ Hid (∀ r, r < q → ∃ a : Nat, p ≤ a ∧ a < k ∧ P a = N r) ∧ Below w.heap.size w ws) (fun i _ => m - (intOf i).toNat)
      case atStart => exact ⟨0, Nat.zero_le _, rfl, ⟨first p, HO.out, hfr⟩, Lib.hid (fun r hr => absurd hr (by omega)), hbel⟩
      case round =>
        obtain ⟨q, hq, rfl, ⟨G, hown, HG⟩, HA, hbel2⟩ := hrel
        have HW := Lib.hid hown
        clear hown hfr HO
        by_cases hlt : q < m
        · obtain ⟨a, rfl, hc⟩ := StrsIn.at HN.out hlt
          have c1 := cell_later hbel2 hc
          have HP2 := Lib.hid (HP.out.below hbel2)
          go_wp2_with fail
          refine (place_any cp k capp P (N q) _ HP2.out hn).mono ?_
          rintro e w3 ⟨⟨r, rfl, hr⟩, hb3⟩
          have hb4 := below_step (Nat.le_refl _) hbel2 hb3
          have hsz3 := hb4.size
          have HW3 := Lib.hid (own_below HW.out hb3)
          rcases hr with ⟨rfl, hno⟩ | ⟨j, hj, rfl, hje⟩
          · have HF : Hid (¬ Good k p P m N) := Lib.hid (fun h => by
              obtain ⟨a, h1, h2, h3⟩ := h.2 q hlt
              exact hno a h2 h3)
            clear hno
            go_wp2
            go_ret2
            exact ⟨⟨_, false, rfl, .inl ⟨rfl, rfl, HF.out⟩⟩, hb4⟩
          rcases own_form HW3.out with ⟨-, h0⟩ | ⟨g, cap', hv, hg1, hg2, hcap, hcm⟩
          · omega
          simp only [Value.slice.injEq, true_and] at hv
          obtain ⟨rfl, rfl⟩ := hv
          have hcell : w3.cell? ⟨g, j, none⟩ = some (.int .i64 (G j)) := own_cell HW3.out rfl hj (ints_get G hj)
          have hfrz : w3.frozen? ⟨g, j, none⟩ = false := World.ownsRow.frozenAt HW3.out _
          by_cases hpos : 0 ≤ G j
          · have HF : Hid (¬ Good k p P m N) := Lib.hid (fun h => by
              obtain ⟨a, h1, h2, h3⟩ := h.2 q hlt
              have haj : a = j := HNP.out.inj h2 hj (h3.trans hje.symm)
              subst haj
              rcases (HG.out a h2).1 hpos with h4 | ⟨r, h4, h5⟩
              · omega
              · exact HNN.out.apart q hlt r h4 (h5.trans hje))
            go_wp2
            go_ret2
            exact ⟨⟨_, false, rfl, .inl ⟨rfl, rfl, HF.out⟩⟩, hb4⟩
          · have HG' : Hid (∀ i, i < k → (0 ≤ (fun i => if i = j then p + q else G i) i ↔ Has p P (q + 1) N i)) := Lib.hid (fun i hi => by
              show 0 ≤ (if i = j then p + (q : Int) else G i) ↔ _
              by_cases hij : i = j
              · subst hij
                rw [if_pos rfl]
                exact ⟨fun _ => .inr ⟨q, by omega, hje.symm⟩, fun _ => by omega⟩
              · rw [if_neg hij, HG.out i hi]
                constructor
                · rintro (h | ⟨r, h5, h6⟩)
                  · exact .inl h
                  · exact .inr ⟨r, by omega, h6⟩
                · rintro (h | ⟨r, h5, h6⟩)
                  · exact .inl h
                  · by_cases hrq : r = q
                    · subst hrq
                      exact absurd (HNP.out.inj hi hj (h6.symm.trans hje.symm)) hij
                    · exact .inr ⟨r, by omega, h6⟩)
            have HA' : Hid (∀ r, r < q + 1 → ∃ a : Nat, p ≤ a ∧ a < k ∧ P a = N r) := Lib.hid (fun r hr => by
              by_cases hrq : r = q
              · subst hrq
                refine ⟨j, ?_, hj, hje⟩
                have : ¬ Has p P r N j := fun h => hpos ((HG.out j hj).2 h)
                unfold Has at this
                omega
              · exact HA.out r (by omega))
            have HS := Lib.hid (World.ownsRow.stored HW3.out j (.int .i64 (p + q))).1
            rw [ints_set G k j _ hj] at HS
            have hpq : IntKind.i64.wrap (p + (q : Int)) = p + q := by go_arith
            go_wp2
            go_roundw
            case rel => exact ⟨q + 1, by omega, by go_num, ⟨_, HS.out, HG'⟩, HA', by go_grown⟩
            case measure => first | (simp [intOf]; done) | (simp [intOf]; omega)
        · obtain rfl : q = m := by omega
          have HGood : Hid (Good k p P q N) := Lib.hid ⟨h1, HA.out⟩
          go_wp2
          go_ret2
          exact ⟨⟨_, true, rfl, .inr ⟨rfl, HGood.out, G, HW.out, HG.out⟩⟩, hbel2⟩

/-- A list of bools that lies in memory. -/
def BoolsIn (w : World) (c : Option Addr) (len cap : Nat) (O : Nat → Bool) : Prop :=
  (c = none ∧ len = 0 ∧ cap = 0) ∨ ∃ a, c = some a ∧ len ≤ cap ∧ cap ≤ maxLen ∧ ∀ i, i < len → a.block < w.heap.size ∧ w.cell? (a.add i) = some (.bool (O i))

theorem BoolsIn.below {w w' : World} {c : Option Addr} {len cap : Nat} {S : Nat → Bool} (h : BoolsIn w c len cap S) (hb : Below w.heap.size w w') : BoolsIn w' c len cap S := by
  rcases h with h | ⟨a, rfl, h1, h2, h3⟩
  · exact .inl h
  · refine .inr ⟨a, rfl, h1, h2, fun i hi => ?_⟩
    obtain ⟨hs, hc⟩ := h3 i hi
    have := hb.size
    exact ⟨by omega, cell_later hb hc⟩

theorem BoolsIn.at {w : World} {c : Option Addr} {len cap : Nat} {S : Nat → Bool} (h : BoolsIn w c len cap S) {j : Nat} (hj : j < len) : ∃ a, c = some a ∧ w.cell? (a.add j) = some (.bool (S j)) := by
  rcases h with ⟨-, h0, -⟩ | ⟨a, rfl, h1, h2, h3⟩
  · omega
  · exact ⟨a, rfl, (h3 j hj).2⟩

/-- The function can be called. -/
def CallP (n : Nat) (p : Int) (P : Nat → ByteArray) (m : Nat) (N : Nat → ByteArray) (O : Nat → Bool) : Prop := Good n p P m N ∧ ∀ i, i < n → Has p P m N i ∨ O i = true

open Classical in
set_option maxRecDepth 100000 in
theorem callable_any (cp : Option Addr) (n capp : Nat) (P : Nat → ByteArray) (co : Option Addr) (capo : Nat) (O : Nat → Bool) (p : Int) (cn : Option Addr) (m capn : Nat) (N : Nat → ByteArray) (w : World) (hP : StrsIn w cp n capp P) (hO : BoolsIn w co n capo O) (hN : StrsIn w cn m capn N) (nP : Names n P) (nN : Names m N) (hp : 0 ≤ p) (hp2 : p ≤ 200) :
    Calls Try.prog 16 #[.slice cp n capp, .slice co n capo, .int .i64 p, .slice cn m capn] w fun e w' => e = .returned (.bool (decide (CallP n p P m N O))) ∧ Below w.heap.size w w' := by
  have HP := Lib.hid hP
  have HN := Lib.hid hN
  have HO := Lib.hid hO
  have HNP := Lib.hid nP
  have HNN := Lib.hid nN
  clear hP hN nP nN hO
  go_enter Try.func16, Try.ntmps16
  go_wp2_with fail
  refine (given_any cp n capp P p cn m capn N _ HP.out HN.out HNP.out HNN.out hp hp2).mono ?_
  rintro e w1 ⟨⟨v, b, rfl, hv⟩, hb1⟩
  rcases hv with ⟨rfl, rfl, hng⟩ | ⟨rfl, hgood, G, hown, hG⟩
  · have HF : Hid (decide (CallP n p P m N O) = false) := Lib.hid (decide_eq_false (fun h => hng h.1))
    clear hng
    go_wp2
    go_rounds 1
    go_ret
    exact ⟨ret_bool HF.out, hb1⟩
  obtain ⟨ao, cpo, rfl⟩ := owns_slice hown
  have HW := Lib.hid hown
  have HG := Lib.hid hG
  have HGood := Lib.hid hgood
  have hn := HNP.out.few
  clear hown hG hgood
  go_wp2_with fail
  go_loopw [10, 11] (fun ok i wr => ∃ (k : Nat) (b : Bool), k ≤ n ∧ i = .int .i64 k ∧ ok = .bool b ∧ Hid (b = true ↔ ∀ j, j < k → 0 ≤ G j ∨ O j = true) ∧ Below w1.heap.size w1 wr) (fun _ i _ => n - (intOf i).toNat)
  case atStart => exact ⟨0, true, Nat.zero_le _, rfl, rfl, Lib.hid ⟨fun _ j hj => absurd hj (by omega), fun _ => rfl⟩, Below.refl _ _⟩
  case round =>
    obtain ⟨k, b, hk, rfl, rfl, HB, hbel⟩ := hrel
    by_cases hlt : k < n
    · cases b
      · have HB' : Hid (false = true ↔ ∀ j, j < k + 1 → 0 ≤ G j ∨ O j = true) := Lib.hid ⟨fun h => (by cases h), fun h => HB.out.2 (fun j hj => h j (by omega))⟩
        go_wp2
        go_roundw
        case rel => exact ⟨k + 1, false, by omega, by go_num, rfl, HB', hbel⟩
        case measure => first | (simp [intOf]; done) | (simp [intOf]; omega)
      · rcases own_form HW.out with ⟨-, h0⟩ | ⟨g, cap', hv, hg1, hg2, hcap, hcm⟩
        · omega
        simp only [Value.slice.injEq, true_and] at hv
        obtain ⟨rfl, rfl⟩ := hv
        have hcell : w1.cell? ⟨g, k, none⟩ = some (.int .i64 (G k)) := own_cell HW.out rfl hlt (ints_get G hlt)
        have c1 := cell_later hbel hcell
        by_cases hpos : 0 ≤ G k
        · have HB' : Hid (true = true ↔ ∀ j, j < k + 1 → 0 ≤ G j ∨ O j = true) := Lib.hid ⟨fun _ j hj => by
            by_cases hjk : j = k
            · subst hjk; exact .inl hpos
            · exact HB.out.1 rfl j (by omega), fun _ => rfl⟩
          clear hcell
          go_wp2
          go_roundw
          case rel => exact ⟨k + 1, true, by omega, by go_num, rfl, HB', hbel⟩
          case measure => first | (simp [intOf]; done) | (simp [intOf]; omega)
        · obtain ⟨a, rfl, hc2⟩ := BoolsIn.at HO.out hlt
          have c2 := cell_later hbel (cell_later hb1 hc2)
          have HB' : Hid (O k = true ↔ ∀ j, j < k + 1 → 0 ≤ G j ∨ O j = true) := Lib.hid ⟨fun h j hj => by
            by_cases hjk : j = k
            · subst hjk; exact .inr h
            · exact HB.out.1 rfl j (by omega), fun h => (h k (by omega)).resolve_left hpos⟩
          clear hcell hc2
          go_wp2
          go_roundw
          case rel => exact ⟨k + 1, O k, by omega, by go_num, rfl, HB', hbel⟩
          case measure => first | (simp [intOf]; done) | (simp [intOf]; omega)
    · obtain rfl : k = n := by omega
      have HF : Hid (decide (CallP k p P m N O) = b) := Lib.hid (by
        have : (b = true ↔ CallP k p P m N O) := by
          rw [HB.out]
          exact ⟨fun h => ⟨HGood.out, fun i hi => (h i hi).imp (HG.out i hi).1 id⟩, fun h i hi => (h.2 i hi).imp (HG.out i hi).2 id⟩
        cases b
        · exact decide_eq_false (fun h => by have := this.2 h; cases this)
        · exact decide_eq_true (this.1 rfl))
      go_wp2
      go_ret
      exact ⟨ret_bool HF.out, below_step (Nat.le_refl _) hb1 hbel⟩

theorem calls_any (cp : Option Addr) (n capp : Nat) (P : Nat → ByteArray) (p : Int) (cn : Option Addr) (m capn : Nat) (N : Nat → ByteArray) (w : World) (hP : StrsIn w cp n capp P) (hN : StrsIn w cn m capn N) :
    Calls Try.prog 14 #[.slice cp n capp, .int .i64 p, .slice cn m capn] w fun e w' => IsB (fun b => b = true → Names n P ∧ Names m N ∧ 0 ≤ p ∧ p ≤ 200) e ∧ Below w.heap.size w w' := by
  have HP := Lib.hid hP
  have HN := Lib.hid hN
  clear hP hN
  go_enter Try.func14, Try.ntmps14
  go_wp2_with fail
  refine (apart_any cp n capp P _ HP.out).mono ?_
  rintro e w1 ⟨⟨b, rfl, h1⟩, hb1⟩
  cases b
  · go_wp2
    go_ret
    exact ⟨⟨_, rfl, fun h => by cases h⟩, hb1⟩
  have HN1 := Lib.hid (HN.out.below hb1)
  have H1 := Lib.hid h1
  clear h1
  go_wp2_with fail
  refine (apart_any cn m capn N _ HN1.out).mono ?_
  rintro e w2 ⟨⟨b, rfl, h2⟩, hb2⟩
  have hb3 := below_step (Nat.le_refl _) hb1 hb2
  have H2 := Lib.hid h2
  clear h2
  cases b
  · go_wp2
    go_ret
    exact ⟨⟨_, rfl, fun h => by cases h⟩, hb3⟩
  by_cases g1 : 0 ≤ p
  · go_wp2
    go_ret
    exact ⟨⟨_, rfl, fun h => ⟨H1.out (by trivial), H2.out (by trivial), g1, of_decide_eq_true h⟩⟩, hb3⟩
  · go_wp2
    go_ret
    exact ⟨⟨_, rfl, fun h => by cases h⟩, hb3⟩
end Go.Proofs.Ythdlekfnmabldaa.fnArguments
