/-
  FnArguments: the package's check of arguments.
-/
import Derived.Test.YthdlekfnmabldaaArgImpl
import Derived.Maps.OwnSet
namespace Go.Proofs.Ythdlekfnmabldaa.fnArguments
open Go.RowKit Go.Maps Go.WideMaps
set_option linter.unusedSimpArgs false
set_option linter.unusedVariables false

/-- The interpreter of the doors: an empty stack, no place. -/
structure Interp (w : World) (b : Nat) : Prop where
  loc : w.cell? ⟨b, 5, none⟩ = some (.pointer none)
  stack : w.cell? ⟨b, 7, none⟩ = some (.slice none 0 0)

theorem Interp.below {w w' : World} {b : Nat} (h : Interp w b) (hb : Below w.heap.size w w') : Interp w' b := ⟨cell_later hb h.loc, cell_later hb h.stack⟩

theorem trace_any (b : Nat) (w : World) (h : Interp w b) : Calls Try.prog 43 #[.pointer (some ⟨b, 0, none⟩)] w
    fun e w' => e = .returned (.slice none 0 0) ∧ w = w' := by
  have h1 := h.loc
  have h2 := h.stack
  go_enter Try.func43, Try.ntmps43
  go_wp2
  go_rounds 1
  go_ret
  exact ⟨rfl, rfl⟩

/-- An error of the evaluator: some value that is not nil. -/
def SomeErr (w : World) (e : Ending) (w' : World) : Prop := ∃ v, e = .returned (.iface 126 v) ∧ Below w.heap.size w w'

theorem error_any (b : Nat) (s : ByteArray) (w : World) (h : Interp w b) : Calls Try.prog 37 #[.pointer (some ⟨b, 0, none⟩), .string s] w (SomeErr w) := by
  go_enter Try.func37, Try.ntmps37
  have H := Lib.hid h
  clear h
  go_wp2_with fail
  refine (trace_any b _ H.out).mono ?_
  rintro e w1 ⟨rfl, rfl⟩
  go_wp2
  go_ret
  exact ⟨_, rfl, by go_grown⟩

/-- Elements of two cells that lie in memory. -/
def TwoIn (w : World) (c : Option Addr) (n cap : Nat) (D : Nat → Value) (S : Nat → ByteArray) : Prop :=
  (c = none ∧ n = 0 ∧ cap = 0) ∨ ∃ g, c = some ⟨g, 0, none⟩ ∧ n ≤ cap ∧ cap ≤ maxLen ∧ ∀ j, j < n → w.cell? ⟨g, j * 2, none⟩ = some (D j) ∧ w.cell? ⟨g, j * 2 + 1, none⟩ = some (.string (S j))

theorem TwoIn.below {w w' : World} {c : Option Addr} {n cap : Nat} {D : Nat → Value} {S : Nat → ByteArray} (h : TwoIn w c n cap D S) (hb : Below w.heap.size w w') : TwoIn w' c n cap D S := by
  rcases h with h | ⟨g, rfl, h1, h2, h3⟩
  · exact .inl h
  · exact .inr ⟨g, rfl, h1, h2, fun j hj => ⟨cell_later hb (h3 j hj).1, cell_later hb (h3 j hj).2⟩⟩

theorem TwoIn.at {w : World} {c : Option Addr} {n cap : Nat} {D : Nat → Value} {S : Nat → ByteArray} (h : TwoIn w c n cap D S) {j : Nat} (hj : j < n) : ∃ g, c = some ⟨g, 0, none⟩ ∧ w.cell? ⟨g, j * 2, none⟩ = some (D j) ∧ w.cell? ⟨g, j * 2 + 1, none⟩ = some (.string (S j)) := by
  rcases h with ⟨-, h0, -⟩ | ⟨g, rfl, h1, h2, h3⟩
  · omega
  · exact ⟨g, rfl, h3 j hj⟩

theorem two_snoc (D : Nat → Value) (S : Nat → ByteArray) (k : Nat) : two D S (k + 1) = two D S k ++ [D k, .string (S k)] := by
  unfold two
  rw [List.range_succ, List.flatMap_append]
  simp

theorem two_length (D : Nat → Value) (S : Nat → ByteArray) (k : Nat) : (two D S k).length = k * 2 := by
  induction k with
  | zero => rfl
  | succ k ih => rw [two_snoc, List.length_append, ih]; simp; omega

theorem two_get (D : Nat → Value) (S : Nat → ByteArray) {k j : Nat} (h : j < k) : (two D S k)[j * 2]? = some (D j) ∧ (two D S k)[j * 2 + 1]? = some (.string (S j)) := by
  induction k with
  | zero => omega
  | succ k ih =>
    have hl := two_length D S k
    rw [two_snoc]
    by_cases hj : j < k
    · rw [List.getElem?_append_left (by omega), List.getElem?_append_left (by omega)]
      exact ih hj
    · obtain rfl : j = k := by omega
      rw [List.getElem?_append_right (by omega), List.getElem?_append_right (by omega), hl]
      simp

theorem two_in {w : World} {B n : Nat} {e : TypeId} {v : Value} {D : Nat → Value} {S : Nat → ByteArray} (h : w.ownsRow B e 2 v n (two D S n)) : ∃ c cap, v = .slice c n cap ∧ TwoIn w c n cap D S := by
  rcases own_form h with ⟨rfl, rfl⟩ | ⟨g, cap, rfl, h1, h2, h3, h4⟩
  · exact ⟨_, _, rfl, .inl ⟨rfl, rfl, rfl⟩⟩
  · refine ⟨_, _, rfl, .inr ⟨g, rfl, h3, h4, fun j hj => ?_⟩⟩
    obtain ⟨g1, g2⟩ := two_get D S hj
    exact ⟨(World.ownsRow.cellAt h (j * 2) (by omega)).trans g1, (World.ownsRow.cellAt h (j * 2 + 1) (by omega)).trans g2⟩

theorem law : Keyed Try.prog 102 := string_keyed Try.underlying102

@[go_sem] theorem make_hint (x : Int) (w : World) : (Instr.makeMap 99 (some (.int .i64 x))).run Try.prog w = .ok (.map (some w.heap.size)) (w.alloc (.map #[] 0)) := by kernel_rfl

/-- A set of names, and a map that is one. -/
def setD (acc : List ByteArray) : DataW Unit := setOf (.lit (.bool true)) (acc.map fun s => Lit.string s.data.toList)

def SetIn (w : World) (b n : Nat) (acc : List ByteArray) : Prop :=
  w.ownsMap Try.prog 102 (plainElem (H := Unit) Try.prog 4) b n (setD acc)

open Classical in
theorem has_set (acc : List ByteArray) (s : ByteArray) : Maps.has (setD acc) (.string s.data.toList) = decide (s ∈ acc) := by
  unfold setD
  rw [has_setOf _ _ _ (fun y hy => by obtain ⟨_, _, rfl⟩ := List.mem_map.1 hy; trivial), List.any_map]
  rw [Bool.eq_iff_iff, List.any_eq_true, decide_eq_true_iff]
  constructor
  · rintro ⟨x, hx, he⟩
    have : x = s := by
      simp [Lit.sameKey] at he
      exact ByteArray.ext he
    exact this ▸ hx
  · intro h
    exact ⟨s, h, by simp [Lit.sameKey]⟩

open Classical in
theorem has_yes {acc : List ByteArray} {s : ByteArray} (h : s ∈ acc) : Maps.has (setD acc) (.string s.data.toList) = true := by rw [has_set]; exact decide_eq_true h
open Classical in
theorem has_no {acc : List ByteArray} {s : ByteArray} (h : ¬ s ∈ acc) : Maps.has (setD acc) (.string s.data.toList) = false := by rw [has_set]; exact decide_eq_false h

theorem set_succ {w' : World} {b n : Nat} {acc : List ByteArray} {s : ByteArray} (h : w'.ownsMap Try.prog 102 (plainElem (H := Unit) Try.prog 4) b (n + 1) ((setD acc).put (.string s.data.toList) (.lit (.bool true)))) : SetIn w' b (n + 1) (acc ++ [s]) := by
  unfold SetIn setD
  rw [List.map_append, List.map_singleton, setOf_snoc]
  exact h

theorem set_made (w : World) : SetIn (w.alloc (.map #[] 0)) w.heap.size 0 [] := World.ownsMap_made _ _ _ _

theorem zeroB (w : World) : (zeroValue 4).run Try.prog w = .ok (.bool false) w := by kernel_rfl

theorem SetIn.kept {w w' : World} {b n : Nat} {acc : List ByteArray} {row : Option Nat} (h : SetIn w b n acc) (hg : w.grownBy w' row) (hne : some b ≠ row) : SetIn w' b n acc := World.ownsMap.kept h hg hne

/-- The first k names. -/
def names (S : Nat → ByteArray) (k : Nat) : List ByteArray := (List.range k).map S

theorem names_succ (S : Nat → ByteArray) (k : Nat) : names S (k + 1) = names S k ++ [S k] := by
  unfold names
  rw [List.range_succ, List.map_append]
  rfl

theorem mem_names {S : Nat → ByteArray} {k : Nat} {s : ByteArray} : s ∈ names S k ↔ ∃ j, j < k ∧ S j = s := by
  unfold names
  simp

set_option maxRecDepth 100000 in
set_option maxHeartbeats 1600000 in
theorem check_any (b : Nat) (ao : Option Addr) (p cq : Nat) (an : Option Addr) (m cqn : Nat) (X : Nat → Value) (N : Nat → ByteArray) (cp : Option Addr) (n capp : Nat) (D : Nat → Value) (P : Nat → ByteArray) (O : Nat → Bool) (w : World) (hI : Interp w b)
    (hN : TwoIn w an m cqn X N) (hP : TwoIn w cp n capp D P) (hD : ∀ j, j < n → DOk (D j) (O j)) (hX : ∀ j, j < m → ∃ t, X j = .pointer (some t)) (nP : Names n P) (nN : Names m N) (hp2 : p ≤ 200) :
    Calls Try.prog 31 #[.pointer (some ⟨b, 0, none⟩), .agg #[.slice ao p cq, .slice an m cqn, .bool false], .slice cp n capp] w fun e w' => ((CallP n p P m N O ∧ e = .returned .nilIface) ∨ (¬ CallP n p P m N O ∧ ∃ v, e = .returned (.iface 126 v))) ∧ Below w.heap.size w w' := by
  have HI := Lib.hid hI
  have HN := Lib.hid hN
  have HP := Lib.hid hP
  have HD := Lib.hid hD
  have HX := Lib.hid hX
  have HNP := Lib.hid nP
  have HNN := Lib.hid nN
  have hn := nP.few
  have hm := nN.few
  clear hI hN hP hD hX nP nN
  have HA0 : Hid (∀ x, Below (w.heap.size + 1) (w.alloc (.cells #[.slice ao p cq, .slice an m cqn, .bool false] 92)) x → x.cell? ⟨w.heap.size, 0, none⟩ = some (.slice ao p cq)) := Lib.hid (fun x h => (h.cell (Nat.lt_succ_self _)).trans (by simp))
  have HA1 : Hid (∀ x, Below (w.heap.size + 1) (w.alloc (.cells #[.slice ao p cq, .slice an m cqn, .bool false] 92)) x → x.cell? ⟨w.heap.size, 1, none⟩ = some (.slice an m cqn)) := Lib.hid (fun x h => (h.cell (Nat.lt_succ_self _)).trans (by simp))
  by_cases h1 : (n : Int) < p
  · have HF : Hid (¬ CallP n p P m N O) := Lib.hid (fun h => by have := h.1.1; omega)
    go_enter Try.func31, Try.ntmps31
    go_wp2_with fail
    refine (error_any b _ _ (HI.out.below (by go_grown))).mono ?_
    rintro e w1 ⟨v, rfl, hb⟩
    go_wp2
    go_ret
    exact ⟨.inr ⟨HF.out, v, rfl⟩, below_step (Nat.le_refl _) (by go_grown) hb⟩
  go_enter Try.func31, Try.ntmps31
  go_wp2_with fail
  go_loopw [42] (fun i wr => ∃ k : Nat, k ≤ n ∧ i = .int .i64 k ∧ SetIn wr (w.heap.size + 1) k (names P k) ∧ Below (w.heap.size + 1) (w.alloc (.cells #[.slice ao p cq, .slice an m cqn, .bool false] 92)) wr) (fun i _ => n - (intOf i).toNat)
  case atStart => exact ⟨0, Nat.zero_le _, rfl, by simpa [names] using set_made (w.alloc (.cells #[.slice ao p cq, .slice an m cqn, .bool false] 92)), by go_grown⟩
  case round =>
    obtain ⟨k, hk, rfl, hset, hbel⟩ := hrel
    have hsz : w.heap.size + 1 ≤ wr.heap.size := by have := hbel.size; simpa using this
    have hbw : Below w.heap.size w wr := (Below.alloc (Below.refl _ _) (Nat.le_refl _) _).trans (hbel.mono (by omega))
    have HS := Lib.hid hset
    clear hset
    by_cases hlt : k < n
    · have hkey : keyOf Try.prog 102 (.string (P k)) = some (.string (P k).data.toList) := keyOf_string_mk Try.underlying102 (by have := HNP.out.short k hlt; unfold maxLen; omega)
      have hns := Lib.hid (names_succ P k)
      obtain ⟨g, rfl, c1, c2⟩ := (HP.out.below hbw).at hlt
      rcases HD.out k hlt with ⟨hok, hd⟩ | ⟨hok, ad, hd⟩
      all_goals
        rw [hd] at c1
        go_wp2_with (at_mapUpdate; refine wpList_mapUpdate_own _ rfl _ _ _ 99 rfl 102 4 law Try.underlying99 (plainElem (H := Unit) Try.prog 4) (w.heap.size + 1) k _ rfl (HS.out.alloc _) (by unfold maxLen; omega) _ _ _ rfl rfl hkey _ [] (plainElem_bool Try.underlying4 true) ?_; intro w1 hown1 hg1)
        go_roundw
        case rel => exact ⟨k + 1, by omega, by go_num, by rw [hns.out]; exact set_succ hown1, Below.grown (hbel.trans (Below.mono (show Below wr.heap.size wr _ by go_grown) hsz)) hg1 (by simp; omega) (fun b hb => by cases hb; omega)⟩
        case measure => first | (simp [intOf]; done) | (simp [intOf]; omega)
    · obtain rfl : k = n := by omega
      clear hlt hk
      have hszA := hsz
      have hbelA := hbel
      have HSA := HS
      have a0 := HA0.out _ hbel
      have a0' := fun o => cell_past o a0
      obtain ⟨R, hR⟩ : ∃ R, wr.heap.size = R := ⟨_, rfl⟩
      have hSM := set_made wr
      rw [hR] at hSM
      have hlt : w.heap.size + 1 < R := by have := World.ownsMap.lt HS.out; omega
      go_wp2_with fail
      have hpk : p ≤ k := by omega
      go_loopw [57] (fun i ws => ∃ j : Nat, j ≤ p ∧ i = .int .i64 j ∧ SetIn ws R j (names P j) ∧ SetIn ws (w.heap.size + 1) k (names P k) ∧ Below (w.heap.size + 1) (w.alloc (.cells #[.slice ao p cq, .slice an m cqn, .bool false] 92)) ws) (fun i _ => p - (intOf i).toNat)
      case atStart => exact ⟨0, Nat.zero_le _, rfl, by simpa [names] using hSM, HS.out.kept (World.grownBy_alloc _ _ none) (by simp), Below.alloc hbel hsz _⟩
      case round =>
        obtain ⟨j, hj, rfl, hr, hs, hbel2⟩ := hrel
        have hsz2 : w.heap.size + 1 ≤ wr.heap.size := by have := hbel2.size; simpa using this
        have hbw2 : Below w.heap.size w wr := (Below.alloc (Below.refl _ _) (Nat.le_refl _) _).trans (hbel2.mono (by omega))
        have HR := Lib.hid hr
        have HS2 := Lib.hid hs
        clear hr hs hSM HS HSA a0 a0' hbelA hbw hbel hR
        by_cases hltj : j < p
        · have hkey : keyOf Try.prog 102 (.string (P j)) = some (.string (P j).data.toList) := keyOf_string_mk Try.underlying102 (by have := HNP.out.short j (by omega); unfold maxLen; omega)
          have hns := Lib.hid (names_succ P j)
          obtain ⟨g, rfl, -, c2⟩ := (HP.out.below hbw2).at (show j < k by omega)
          go_wp2_with (at_mapUpdate; refine wpList_mapUpdate_own _ rfl _ _ _ 99 rfl 102 4 law Try.underlying99 (plainElem (H := Unit) Try.prog 4) R j _ rfl HR.out (by unfold maxLen; omega) _ _ _ rfl rfl hkey _ [] (plainElem_bool Try.underlying4 true) ?_; intro w1 hown1 hg1)
          go_roundw
          case rel => exact ⟨j + 1, by omega, by go_num, by rw [hns.out]; exact set_succ hown1, HS2.out.kept hg1 (by simp; omega), Below.grown hbel2 hg1 hsz2 (fun b hb => by cases hb; omega)⟩
          case measure => first | (simp [intOf]; done) | (simp [intOf]; omega)
        · obtain rfl : j = p := by omega
          have a1 := HA1.out _ hbel2
          go_wp2_with fail
          go_loopw [70] (fun i ws => ∃ q : Nat, q ≤ m ∧ i = .int .i64 q ∧ SetIn ws R (j + q) (names P j ++ names N q) ∧ SetIn ws (w.heap.size + 1) k (names P k) ∧ Below (w.heap.size + 1) (w.alloc (.cells #[.slice ao j cq, .slice an m cqn, .bool false] 92)) ws ∧ Hid (∀ r, r < q → ∃ a : Nat, j ≤ a ∧ a < k ∧ P a = N r)) (fun i _ => m - (intOf i).toNat)
          case atStart => exact ⟨0, Nat.zero_le _, rfl, by simpa [names] using HR.out, HS2.out, hbel2, Lib.hid (fun r hr => absurd hr (by omega))⟩
          case round =>
            obtain ⟨q, hq, rfl, hr, hs, hbel3, HA⟩ := hrel
            have hsz3 : w.heap.size + 1 ≤ wr.heap.size := by have := hbel3.size; simpa using this
            have hbw3 : Below w.heap.size w wr := (Below.alloc (Below.refl _ _) (Nat.le_refl _) _).trans (hbel3.mono (by omega))
            have HR3 := Lib.hid hr
            have HS3 := Lib.hid hs
            clear hr hs hbel2 hbw2 hsz2 hsz hszA a1 HR HS2
            by_cases hltq : q < m
            · have hkey : keyOf Try.prog 102 (.string (N q)) = some (.string (N q).data.toList) := keyOf_string_mk Try.underlying102 (by have := HNN.out.short q hltq; unfold maxLen; omega)
              have hns := Lib.hid (names_succ N q)
              obtain ⟨g, rfl, c1, c2⟩ := (HN.out.below hbw3).at hltq
              obtain ⟨ta, hta⟩ := HX.out q hltq
              rw [hta] at c1
              by_cases hin : N q ∈ names P j ++ names N q
              · have hh := has_yes hin
                have HF : Hid (¬ CallP k j P m N O) := Lib.hid (fun h => by
                  obtain ⟨a, g1, g2, g3⟩ := h.1.2 q hltq
                  rcases List.mem_append.1 hin with hi | hi
                  · obtain ⟨r, g4, g5⟩ := mem_names.1 hi
                    have := HNP.out.inj (show r < k by omega) g2 (g5.trans g3.symm)
                    omega
                  · obtain ⟨r, g4, g5⟩ := mem_names.1 hi
                    exact HNN.out.apart q hltq r g4 g5)
                clear hin
                go_wp2_with (at_lookup; refine wpList_lookup_own_ok _ rfl (.tmp 75) (.tmp 77) 99 rfl 102 4 law Try.underlying99 (plainElem (H := Unit) Try.prog 4) (zeroB _) (.lit (.bool false)) [] (plainElem_bool Try.underlying4 false) R (j + q) _ rfl (HR3.out.alloc _) _ _ rfl hkey ?_; intro v ps hv)
                refine (error_any b _ _ (HI.out.below (below_step (Nat.le_refl _) hbw3 (by go_grown)))).mono ?_
                rintro e w9 ⟨v9, rfl, hb9⟩
                go_wp2
                go_ret
                exact ⟨.inr ⟨HF.out, v9, rfl⟩, below_step (Nat.le_refl _) (below_step (Nat.le_refl _) hbw3 (by go_grown)) hb9⟩
              · have hh := has_no hin
                by_cases hacc : N q ∈ names P k
                · have hh2 := has_yes hacc
                  have HA' : Hid (∀ r, r < q + 1 → ∃ a : Nat, j ≤ a ∧ a < k ∧ P a = N r) := Lib.hid (fun r hr => by
                    by_cases hrq : r = q
                    · subst hrq
                      obtain ⟨a, g1, g2⟩ := mem_names.1 hacc
                      refine ⟨a, ?_, g1, g2⟩
                      rcases Nat.lt_or_ge a j with h | h
                      · exact absurd (List.mem_append.2 (.inl (mem_names.2 ⟨a, h, g2⟩))) hin
                      · exact h
                    · exact HA.out r (by omega))
                  clear hin hacc
                  go_wp2_with (first | (at_lookup; refine wpList_lookup_own_ok _ rfl (.tmp 75) (.tmp 77) 99 rfl 102 4 law Try.underlying99 (plainElem (H := Unit) Try.prog 4) (zeroB _) (.lit (.bool false)) [] (plainElem_bool Try.underlying4 false) R (j + q) _ rfl (HR3.out.alloc _) _ _ rfl hkey ?_; intro v1 psv1 hvv1) | (at_lookup; refine wpList_lookup_own_ok _ rfl (.tmp 85) (.tmp 87) 99 rfl 102 4 law Try.underlying99 (plainElem (H := Unit) Try.prog 4) (zeroB _) (.lit (.bool false)) [] (plainElem_bool Try.underlying4 false) (w.heap.size + 1) k _ rfl (HS3.out.alloc _) _ _ rfl hkey ?_; intro v2 psv2 hvv2) | (at_mapUpdate; refine wpList_mapUpdate_own _ rfl _ _ _ 99 rfl 102 4 law Try.underlying99 (plainElem (H := Unit) Try.prog 4) R (j + q) _ rfl (HR3.out.alloc _) (by unfold maxLen; omega) _ _ _ rfl rfl hkey _ [] (plainElem_bool Try.underlying4 true) ?_; intro w1 hown1 hg1))
                  go_roundw
                  case rel => exact ⟨q + 1, by omega, by go_num, by rw [hns.out, ← List.append_assoc]; exact set_succ hown1, (HS3.out.alloc _).kept hg1 (by simp; omega), Below.grown (hbel3.trans (Below.mono (show Below wr.heap.size wr _ by go_grown) hsz3)) hg1 (by simp; omega) (fun b hb => by cases hb; omega), HA'⟩
                  case measure => first | (simp [intOf]; done) | (simp [intOf]; omega)
                · have hh2 := has_no hacc
                  have HF : Hid (¬ CallP k j P m N O) := Lib.hid (fun h => by
                    obtain ⟨a, g1, g2, g3⟩ := h.1.2 q hltq
                    exact hacc (mem_names.2 ⟨a, g2, g3⟩))
                  clear hin hacc
                  go_wp2_with (first | (at_lookup; refine wpList_lookup_own_ok _ rfl (.tmp 75) (.tmp 77) 99 rfl 102 4 law Try.underlying99 (plainElem (H := Unit) Try.prog 4) (zeroB _) (.lit (.bool false)) [] (plainElem_bool Try.underlying4 false) R (j + q) _ rfl (HR3.out.alloc _) _ _ rfl hkey ?_; intro v1 psv1 hvv1) | (at_lookup; refine wpList_lookup_own_ok _ rfl (.tmp 85) (.tmp 87) 99 rfl 102 4 law Try.underlying99 (plainElem (H := Unit) Try.prog 4) (zeroB _) (.lit (.bool false)) [] (plainElem_bool Try.underlying4 false) (w.heap.size + 1) k _ rfl (HS3.out.alloc _) _ _ rfl hkey ?_; intro v2 psv2 hvv2))
                  refine (error_any b _ _ (HI.out.below (below_step (Nat.le_refl _) hbw3 (by go_grown)))).mono ?_
                  rintro e w9 ⟨v9, rfl, hb9⟩
                  go_wp2
                  go_ret
                  exact ⟨.inr ⟨HF.out, v9, rfl⟩, below_step (Nat.le_refl _) (below_step (Nat.le_refl _) hbw3 (by go_grown)) hb9⟩
            · obtain rfl : q = m := by omega
              have HGood : Hid (Good k j P q N) := Lib.hid ⟨h1, fun r hr => by
                obtain ⟨a, g1, g2, g3⟩ := HA.out r hr
                exact ⟨a, by omega, g2, g3⟩⟩
              go_wp2_with fail
              go_loopw [101] (fun i ws => ∃ s : Nat, s ≤ k ∧ i = .int .i64 s ∧ SetIn ws R (j + q) (names P j ++ names N q) ∧ Below (w.heap.size + 1) (w.alloc (.cells #[.slice ao j cq, .slice an q cqn, .bool false] 92)) ws ∧ Hid (∀ i, i < s → Has j P q N i ∨ O i = true)) (fun i _ => k - (intOf i).toNat)
              case atStart => exact ⟨0, Nat.zero_le _, rfl, HR3.out, hbel3, Lib.hid (fun r hr => absurd hr (by omega))⟩
              case round =>
                obtain ⟨s, hs, rfl, hr, hbel4, HC⟩ := hrel
                have hsz4 : w.heap.size + 1 ≤ wr.heap.size := by have := hbel4.size; simpa using this
                have hbw4 : Below w.heap.size w wr := (Below.alloc (Below.refl _ _) (Nat.le_refl _) _).trans (hbel4.mono (by omega))
                have HR4 := Lib.hid hr
                clear hr hbel3 hbw3 hsz3 HR3 HS3 HA
                by_cases hlts : s < k
                · have hkey : keyOf Try.prog 102 (.string (P s)) = some (.string (P s).data.toList) := keyOf_string_mk Try.underlying102 (by have := HNP.out.short s hlts; unfold maxLen; omega)
                  obtain ⟨g, rfl, c1, c2⟩ := (HP.out.below hbw4).at hlts
                  have hiff : P s ∈ names P j ++ names N q ↔ Has j P q N s := by
                    rw [List.mem_append, mem_names, mem_names]
                    unfold Has
                    constructor
                    · rintro (⟨r, g1, g2⟩ | ⟨r, g1, g2⟩)
                      · have := HNP.out.inj (show r < k by omega) hlts g2
                        exact .inl (by omega)
                      · exact .inr ⟨r, g1, g2⟩
                    · rintro (h | ⟨r, g1, g2⟩)
                      · exact .inl ⟨s, by omega, rfl⟩
                      · exact .inr ⟨r, g1, g2⟩
                  by_cases hin : P s ∈ names P j ++ names N q
                  · have hh := has_yes hin
                    have HC' : Hid (∀ i, i < s + 1 → Has j P q N i ∨ O i = true) := Lib.hid (fun i hi => by
                      by_cases his : i = s
                      · subst his; exact .inl (hiff.1 hin)
                      · exact HC.out i (by omega))
                    clear hin hiff
                    rcases HD.out s hlts with ⟨hok, hd⟩ | ⟨hok, ad, hd⟩
                    all_goals
                      rw [hd] at c1
                      go_wp2_with (at_lookup; refine wpList_lookup_own_ok _ rfl (.tmp 106) (.tmp 108) 99 rfl 102 4 law Try.underlying99 (plainElem (H := Unit) Try.prog 4) (zeroB _) (.lit (.bool false)) [] (plainElem_bool Try.underlying4 false) R (j + q) _ rfl (HR4.out.alloc _) _ _ rfl hkey ?_; intro v1 psv1 hvv1)
                      go_roundw
                      case rel => exact ⟨s + 1, by omega, by go_num, HR4.out.alloc _, hbel4.trans (Below.mono (show Below wr.heap.size wr _ by go_grown) hsz4), HC'⟩
                      case measure => first | (simp [intOf]; done) | (simp [intOf]; omega)
                  · have hh := has_no hin
                    rcases HD.out s hlts with ⟨hok, hd⟩ | ⟨hok, ad, hd⟩
                    · have HF : Hid (¬ CallP k j P q N O) := Lib.hid (fun h => by
                        rcases h.2 s hlts with g1 | g1
                        · exact hin (hiff.2 g1)
                        · rw [hok] at g1; cases g1)
                      clear hin hiff
                      rw [hd] at c1
                      go_wp2_with (at_lookup; refine wpList_lookup_own_ok _ rfl (.tmp 106) (.tmp 108) 99 rfl 102 4 law Try.underlying99 (plainElem (H := Unit) Try.prog 4) (zeroB _) (.lit (.bool false)) [] (plainElem_bool Try.underlying4 false) R (j + q) _ rfl (HR4.out.alloc _) _ _ rfl hkey ?_; intro v1 psv1 hvv1)
                      refine (error_any b _ _ (HI.out.below (below_step (Nat.le_refl _) hbw4 (by go_grown)))).mono ?_
                      rintro e w9 ⟨v9, rfl, hb9⟩
                      go_wp2
                      go_ret
                      exact ⟨.inr ⟨HF.out, v9, rfl⟩, below_step (Nat.le_refl _) (below_step (Nat.le_refl _) hbw4 (by go_grown)) hb9⟩
                    · have HC' : Hid (∀ i, i < s + 1 → Has j P q N i ∨ O i = true) := Lib.hid (fun i hi => by
                        by_cases his : i = s
                        · subst his; exact .inr hok
                        · exact HC.out i (by omega))
                      clear hin hiff
                      rw [hd] at c1
                      go_wp2_with (at_lookup; refine wpList_lookup_own_ok _ rfl (.tmp 106) (.tmp 108) 99 rfl 102 4 law Try.underlying99 (plainElem (H := Unit) Try.prog 4) (zeroB _) (.lit (.bool false)) [] (plainElem_bool Try.underlying4 false) R (j + q) _ rfl (HR4.out.alloc _) _ _ rfl hkey ?_; intro v1 psv1 hvv1)
                      go_roundw
                      case rel => exact ⟨s + 1, by omega, by go_num, HR4.out.alloc _, hbel4.trans (Below.mono (show Below wr.heap.size wr _ by go_grown) hsz4), HC'⟩
                      case measure => first | (simp [intOf]; done) | (simp [intOf]; omega)
                · have HT : Hid (CallP k j P q N O) := Lib.hid ⟨HGood.out, fun i hi => HC.out i (by omega)⟩
                  go_wp2
                  go_ret
                  exact ⟨.inl ⟨HT.out, rfl⟩, hbw4⟩
end Go.Proofs.Ythdlekfnmabldaa.fnArguments
