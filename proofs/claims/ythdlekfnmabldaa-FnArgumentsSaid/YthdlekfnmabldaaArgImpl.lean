/-
  FnArguments: what the package's helpers make: params and arguments.
-/
import Derived.Test.YthdlekfnmabldaaArgSpec
import Derived.Deep.RegionLaw
namespace Go.Proofs.Ythdlekfnmabldaa.fnArguments
open Go.RowKit
set_option linter.unusedSimpArgs false
set_option linter.unusedVariables false

theorem infoPar : (Try.prog.info? 104).map (fun i => (i.zero, i.size, i.bytes)) = some (some (.agg #[.nilIface, .string ⟨#[]⟩]), 2, 32) := by kernel_rfl
theorem infoArg : (Try.prog.info? 107).map (fun i => (i.zero, i.size, i.bytes)) = some (some (.agg #[.pointer none, .string ⟨#[]⟩]), 2, 24) := by kernel_rfl
theorem infoThunkP : (Try.prog.info? 105).map (fun i => (i.zero, i.size, i.bytes)) = some (some (.pointer none), 1, 8) := by kernel_rfl

/-- Two cells an element. -/
def two (D : Nat → Value) (S : Nat → ByteArray) (k : Nat) : List Value := (List.range k).flatMap fun j => [D j, .string (S j)]

theorem two_succ (D : Nat → Value) (S : Nat → ByteArray) (k : Nat) (d : Value) : two (fun j => if j = k then d else D j) S (k + 1) = two D S k ++ [d, .string (S k)] := by
  unfold two
  rw [List.range_succ, List.flatMap_append]
  congr 1
  · exact Go.Deep.flatMap_congr_range (fun j hj => by show [if j = k then d else D j, _] = _; rw [if_neg (by omega)])
  · simp

/-- What stands for a default: nil, or a node. -/
def DOk (d : Value) (o : Bool) : Prop := (o = false ∧ d = .nilIface) ∨ (o = true ∧ ∃ a, d = .iface 111 (.pointer (some a)))

set_option maxRecDepth 100000 in
theorem params_any (cp : Option Addr) (n capp : Nat) (P : Nat → ByteArray) (co : Option Addr) (capo : Nat) (O : Nat → Bool) (w : World) (hP : StrsIn w cp n capp P) (hO : BoolsIn w co n capo O) (hn : n ≤ 100) :
    Calls Try.prog 33 #[.slice cp n capp, .slice co n capo] w fun e w' => ∃ v D, e = .returned v ∧ w'.ownsRow w.heap.size 104 2 v n (two D P n) ∧ (∀ j, j < n → DOk (D j) (O j)) ∧ Below w.heap.size w w' := by
  have HP := Lib.hid hP
  have HO := Lib.hid hO
  clear hP hO
  go_enter Try.func33, Try.ntmps33
  go_wp2_with fail
  go_loopw [5, 11] (fun v i wr => ∃ k : Nat, k ≤ n ∧ i = .int .i64 k ∧ (∃ D : Nat → Value, wr.ownsRow w.heap.size 104 2 v k (two D P k) ∧ Hid (∀ j, j < k → DOk (D j) (O j))) ∧ Below w.heap.size w wr) (fun _ i _ => n - (intOf i).toNat)
  case atStart => exact ⟨0, Nat.zero_le _, rfl, ⟨fun _ => .nilIface, World.ownsRow_nil _ _ _ _, Lib.hid (fun j hj => absurd hj (by omega))⟩, by go_grown⟩
  case round =>
    obtain ⟨k, hk, rfl, ⟨D, hown, HD⟩, hbel⟩ := hrel
    have hsz := hbel.size
    have HW := Lib.hid hown
    clear hown
    by_cases hlt : k < n
    · obtain ⟨a, rfl, hc⟩ := StrsIn.at HP.out hlt
      obtain ⟨b, rfl, hc2⟩ := BoolsIn.at HO.out hlt
      have c1 := cell_later hbel hc
      have c2 := cell_later hbel hc2
      have c2' := fun o => cell_past o c2
      have c2'' := fun o p v (h : wr.heap.size ≤ p) => cell_later (Below.setCell (p := ⟨p, 0, none⟩) (Below.alloc (Below.refl wr.heap.size wr) (Nat.le_refl _) o) h v) c2
      clear hc hc2
      cases ho : O k
      · rw [ho] at c2 c2' c2''
        have hf := Lib.hid (two_succ D P k (.nilIface))
        have hdk : Hid (DOk (.nilIface) (O k)) := Lib.hid (.inl ⟨ho, rfl⟩)
        go_wp2_with (at_builtin; refine wpList_append_run rfl (.tmp 32) (.tmp 34) 94 rfl (appS (wr := wr) (B := w.heap.size) (size := 2) 94 94 104 Try.underlying94 infoPar rfl (by decide) HW.out hsz (grown_of_below (by go_grown)) (by omega) (by omega) [.nilIface, .string (P k)] rfl (fun u hu => by simp at hu; rcases hu with rfl | rfl <;> rfl) _ _ (cells_new (by simp))) ?_; rintro v1 w2 ⟨hown, hg, hb⟩)
        go_roundw
        case rel =>
          refine ⟨k + 1, by omega, by go_num, ⟨_, by rw [hf.out]; exact hown, Lib.hid (fun j hj => ?_)⟩, Below.grown (below_step (Nat.le_refl _) hbel (by go_grown)) hg (by simp; omega) (fun b h => (hb b h).1)⟩
          by_cases hjk : j = k
          · subst hjk
            simp only [if_true]
            exact hdk.out
          · simp only [if_neg hjk]
            exact HD.out j (by omega)
        case measure => first | (simp [intOf]; done) | (simp [intOf]; omega)
      · rw [ho] at c2 c2' c2''
        have hf := Lib.hid (two_succ D P k (.iface 111 (.pointer (some ⟨wr.heap.size + 1, 0, none⟩))))
        have hdk : Hid (DOk (.iface 111 (.pointer (some ⟨wr.heap.size + 1, 0, none⟩))) (O k)) := Lib.hid (.inr ⟨ho, _, rfl⟩)
        go_wp2_with (at_builtin; refine wpList_append_run rfl (.tmp 32) (.tmp 34) 94 rfl (appS (wr := wr) (B := w.heap.size) (size := 2) 94 94 104 Try.underlying94 infoPar rfl (by decide) HW.out hsz (grown_of_below (by go_grown)) (by omega) (by omega) [.iface 111 (.pointer (some ⟨wr.heap.size + 1, 0, none⟩)), .string (P k)] rfl (fun u hu => by simp at hu; rcases hu with rfl | rfl <;> rfl) _ _ (cells_new (by simp))) ?_; rintro v1 w2 ⟨hown, hg, hb⟩)
        go_roundw
        case rel =>
          refine ⟨k + 1, by omega, by go_num, ⟨_, by rw [hf.out]; exact hown, Lib.hid (fun j hj => ?_)⟩, Below.grown (below_step (Nat.le_refl _) hbel (by go_grown)) hg (by simp; omega) (fun b h => (hb b h).1)⟩
          by_cases hjk : j = k
          · subst hjk
            simp only [if_true]
            exact hdk.out
          · simp only [if_neg hjk]
            exact HD.out j (by omega)
        case measure => first | (simp [intOf]; done) | (simp [intOf]; omega)
    · obtain rfl : k = n := by omega
      go_wp2
      go_ret
      exact ⟨_, D, rfl, HW.out, HD.out, hbel⟩

theorem toValue_any (i : Int) (w : World) : Calls Try.prog 39 #[.int .i64 i] w
    fun e w' => e = .returned (.pointer (some ⟨w.heap.size, 0, none⟩)) ∧ w.alloc (.cells #[.float .f64 (floatOfInt FloatKind.f64 i)] 150) = w' := by
  go_enter Try.func39, Try.ntmps39
  go_wp2_with (go_in)
  go_ret
  exact ⟨rfl, rfl⟩

theorem ready_any (t : TypeId) (v : Value) (w : World) : Calls Try.prog 38 #[.iface t v] w
    fun e w' => e = .returned (.pointer (some ⟨w.heap.size, 0, none⟩)) ∧ w.alloc (.cells #[.pointer none, .nilIface, .iface t v, .nilIface] 133) = w' := by
  go_enter Try.func38, Try.ntmps38
  go_wp2
  go_ret
  exact ⟨rfl, rfl⟩

/-- What lies at the beginning, and in the local variable. -/
structure OutIn (w0 w : World) (v1 v2 : Value) : Prop where
  c0 : w.cell? ⟨w0.heap.size + 1, 0, none⟩ = some v1
  c1 : w.cell? ⟨w0.heap.size + 1, 1, none⟩ = some v2
  c2 : w.cell? ⟨w0.heap.size + 1, 2, none⟩ = some (.bool false)
  d0 : w.cell? ⟨w0.heap.size, 0, none⟩ = some (.slice none 0 0)
  d1 : w.cell? ⟨w0.heap.size, 1, none⟩ = some (.slice none 0 0)
  d2 : w.cell? ⟨w0.heap.size, 2, none⟩ = some (.bool false)
  f0 : w.frozen? ⟨w0.heap.size + 1, 0, none⟩ = false
  f1 : w.frozen? ⟨w0.heap.size + 1, 1, none⟩ = false
  f2 : w.frozen? ⟨w0.heap.size + 1, 2, none⟩ = false
  g0 : w.frozen? ⟨w0.heap.size, 0, none⟩ = false
  g1 : w.frozen? ⟨w0.heap.size, 1, none⟩ = false
  g2 : w.frozen? ⟨w0.heap.size, 2, none⟩ = false

theorem OutIn.below {w0 w w' : World} {v1 v2 : Value} (h : OutIn w0 w v1 v2) (hb : Below (w0.heap.size + 2) w w') : OutIn w0 w' v1 v2 := by
  obtain ⟨a0, a1, a2, a3, a4, a5, a6, a7, a8, a9, a10, a11⟩ := h
  have hc : ∀ (b j : Nat), b < w0.heap.size + 2 → w'.cell? ⟨b, j, none⟩ = w.cell? ⟨b, j, none⟩ := fun b j h => hb.cell h
  have hf : ∀ (b j : Nat), b < w0.heap.size + 2 → w'.frozen? ⟨b, j, none⟩ = w.frozen? ⟨b, j, none⟩ := fun b j h => hb.frozen h
  exact ⟨(hc _ _ (by omega)).trans a0, (hc _ _ (by omega)).trans a1, (hc _ _ (by omega)).trans a2, (hc _ _ (by omega)).trans a3, (hc _ _ (by omega)).trans a4, (hc _ _ (by omega)).trans a5,
    (hf _ _ (by omega)).trans a6, (hf _ _ (by omega)).trans a7, (hf _ _ (by omega)).trans a8, (hf _ _ (by omega)).trans a9, (hf _ _ (by omega)).trans a10, (hf _ _ (by omega)).trans a11⟩

theorem OutIn.set0 {w0 w : World} {v1 v2 : Value} (h : OutIn w0 w v1 v2) (v : Value) : OutIn w0 (w.setCell ⟨w0.heap.size + 1, 0, none⟩ v) v v2 := by
  obtain ⟨a0, a1, a2, a3, a4, a5, a6, a7, a8, a9, a10, a11⟩ := h
  have ho : ∀ (x : Addr), (⟨w0.heap.size + 1, 0, none⟩ : Addr) ≠ x → (w.setCell ⟨w0.heap.size + 1, 0, none⟩ v).cell? x = w.cell? x := fun x hx => World.cell?_setCell_other _ _ _ _ hx
  exact ⟨World.cell?_setCell_same' _ _ _ (by rw [a0]; rfl), (ho _ (by simp)).trans a1, (ho _ (by simp)).trans a2, (ho _ (by simp)).trans a3, (ho _ (by simp)).trans a4, (ho _ (by simp)).trans a5,
    by simpa using a6, by simpa using a7, by simpa using a8, by simpa using a9, by simpa using a10, by simpa using a11⟩

theorem OutIn.set1 {w0 w : World} {v1 v2 : Value} (h : OutIn w0 w v1 v2) (v : Value) : OutIn w0 (w.setCell ⟨w0.heap.size + 1, 1, none⟩ v) v1 v := by
  obtain ⟨a0, a1, a2, a3, a4, a5, a6, a7, a8, a9, a10, a11⟩ := h
  have ho : ∀ (x : Addr), (⟨w0.heap.size + 1, 1, none⟩ : Addr) ≠ x → (w.setCell ⟨w0.heap.size + 1, 1, none⟩ v).cell? x = w.cell? x := fun x hx => World.cell?_setCell_other _ _ _ _ hx
  exact ⟨(ho _ (by simp)).trans a0, World.cell?_setCell_same' _ _ _ (by rw [a1]; rfl), (ho _ (by simp)).trans a2, (ho _ (by simp)).trans a3, (ho _ (by simp)).trans a4, (ho _ (by simp)).trans a5,
    by simpa using a6, by simpa using a7, by simpa using a8, by simpa using a9, by simpa using a10, by simpa using a11⟩

set_option maxRecDepth 100000 in
set_option maxHeartbeats 1600000 in
theorem arguments_any (p : Nat) (cn : Option Addr) (m capn : Nat) (N : Nat → ByteArray) (w : World) (hN : StrsIn w cn m capn N) (hm : m ≤ 100) (hp2 : p ≤ 200) :
    Calls Try.prog 32 #[.int .i64 p, .slice cn m capn] w fun e w' => ∃ ao cq an cqn X, e = .returned (.agg #[.slice ao p cq, .slice an m cqn, .bool false]) ∧ w'.ownsRow w.heap.size 107 2 (.slice an m cqn) m (two X N m) ∧ (∀ j, j < m → ∃ t, X j = .pointer (some t)) ∧ Below w.heap.size w w' := by
  have HN := Lib.hid hN
  clear hN
  go_enter Try.func32, Try.ntmps32
  go_wp2_with fail
  go_loopw [10] (fun i wr => ∃ k : Nat, k ≤ p ∧ i = .int .i64 k ∧ (∃ ao cq L, wr.ownsRow (w.heap.size + 2) 105 1 (.slice ao k cq) k L ∧ OutIn w wr (.slice ao k cq) (.slice none 0 0)) ∧ w.heap.size + 2 ≤ wr.heap.size ∧ Below w.heap.size w wr) (fun i _ => p - (intOf i).toNat)
  case atStart => exact ⟨0, Nat.zero_le _, rfl, ⟨none, 0, [], World.ownsRow_nil _ _ _ _, ⟨by simp, by simp, by simp, by simp, by simp, by simp, by simp, by simp, by simp, by simp, by simp, by simp⟩⟩, by simp, by go_grown⟩
  case round =>
    obtain ⟨k, hk, rfl, ⟨ao, cq, L, hown, ho⟩, hsz, hbel⟩ := hrel
    have HW := Lib.hid hown
    have HO := Lib.hid ho
    obtain ⟨c0, c1, c2, d0, d1, d2, f0, f1, f2, g0, g1, g2⟩ := ho
    clear hown
    by_cases hlt : k < p
    · have hlt' : (k : Int) < p := by omega
      have p1 := fun o => cell_past o c0
      have p2 := fun o o' => cell_past o' (cell_past o c0)
      have p3 := fun o o' o'' => cell_past o'' (cell_past o' (cell_past o c0))
      go_wp2
      go_region_law (first | (go_simp; go_at_call 39; refine (toValue_any _ _).mono ?_; rintro e w' ⟨rfl, rfl⟩) | (go_simp; go_at_call 38; refine (ready_any _ _ _).mono ?_; rintro e w' ⟨rfl, rfl⟩) | (refine step_append rfl (.tmp 14) (.tmp 19) 89 rfl (app1 (wr := wr) (B := w.heap.size + 2) 89 89 105 Try.underlying89 infoThunkP rfl HW.out hsz (grown_of_below (by go_grown)) (by omega) (by omega) (.pointer (some ⟨wr.heap.size + 1, 0, none⟩)) rfl ⟨wr.heap.size + 1 + 1, 0, none⟩ 1 (cell_at_new (by simp))) ?_; rintro v1 w2 ⟨hown2, hg, hb⟩; obtain ⟨ao2, cq2, rfl⟩ := owns_slice hown2; have hB2 : Below (w.heap.size + 2) wr w2 := Below.grown (Below.mono (show Below wr.heap.size wr _ by go_grown) hsz) hg (by simp; omega) (fun b h => (hb b h).1); have hO2 := HO.out.below hB2; have k0 := hO2.c0; have k1 := hO2.f0))
      all_goals
        have hO3 := Lib.hid (hO2.set0 (.slice ao2 (k + 1) cq2))
        have hW3 := Lib.hid (own_set hown2 (a := ⟨w.heap.size + 1, 0, none⟩) (by simp) (.slice ao2 (k + 1) cq2))
        have hB3 : Below w.heap.size w (w2.setCell ⟨w.heap.size + 1, 0, none⟩ (.slice ao2 (k + 1) cq2)) := Below.setCell (hbel.trans (hB2.mono (by omega))) (by simp) _
        have hs3 : w.heap.size + 2 ≤ (w2.setCell ⟨w.heap.size + 1, 0, none⟩ (.slice ao2 (k + 1) cq2)).heap.size := by have := hB2.size; simp; omega
        clear hO2 hown2 hB2 k0 k1 hg hb p1 p2 p3 c0 c1 c2 d0 d1 d2 f0 f1 f2 g0 g1 g2
        go_wp2
        go_roundw
        case rel => exact ⟨k + 1, by omega, by go_num, ⟨ao2, cq2, _, hW3.out, hO3.out⟩, hs3, hB3⟩
        case measure => first | (simp [intOf]; done) | (simp [intOf]; omega)
    · obtain rfl : k = p := by omega
      clear c0 c1 c2 d0 d1 d2 f0 f1 f2 g0 g1 g2
      go_wp2_with fail
      clear hk hlt HW
      go_loopw [25] (fun i wr => ∃ q : Nat, q ≤ m ∧ i = .int .i64 q ∧ (∃ an cqn X, wr.ownsRow (w.heap.size + 2) 107 2 (.slice an q cqn) q (two X N q) ∧ OutIn w wr (.slice ao k cq) (.slice an q cqn) ∧ Hid (∀ j, j < q → ∃ t, X j = .pointer (some t))) ∧ w.heap.size + 2 ≤ wr.heap.size ∧ Below w.heap.size w wr) (fun i _ => m - (intOf i).toNat)
      case atStart => exact ⟨0, Nat.zero_le _, rfl, ⟨none, 0, fun _ => .nilIface, World.ownsRow_nil _ _ _ _, HO.out, Lib.hid (fun j hj => absurd hj (by omega))⟩, hsz, hbel⟩
      case round =>
        obtain ⟨q, hq, rfl, ⟨an, cqn, X, hown, ho, HX⟩, hsz, hbel⟩ := hrel
        have HW := Lib.hid hown
        have HO := Lib.hid ho
        obtain ⟨c0, c1, c2, d0, d1, d2, f0, f1, f2, g0, g1, g2⟩ := ho
        clear hown
        by_cases hlt : q < m
        · obtain ⟨a, rfl, hc⟩ := StrsIn.at HN.out hlt
          have c3 := cell_later hbel hc
          have p1 := fun o => cell_past o c1
          have p2 := fun o o' => cell_past o' (cell_past o c1)
          have p3 := fun o o' o'' => cell_past o'' (cell_past o' (cell_past o c1))
          have hf := Lib.hid (two_succ X N q (.pointer (some ⟨wr.heap.size + 1, 0, none⟩)))
          have HX2 : Hid (∀ j, j < q + 1 → ∃ t, (fun j => if j = q then .pointer (some ⟨wr.heap.size + 1, 0, none⟩) else X j) j = .pointer (some t)) := Lib.hid (fun j hj => by
            show ∃ t, (if j = q then _ else X j) = _
            by_cases hjq : j = q
            · rw [if_pos hjq]; exact ⟨_, rfl⟩
            · rw [if_neg hjq]; exact HX.out j (by omega))
          clear hc c0 c2 d0 d1 d2 f0 f2 g0 g1 g2
          go_wp2
          go_region_law (first | (go_simp; go_at_call 39; refine (toValue_any _ _).mono ?_; rintro e w' ⟨rfl, rfl⟩) | (go_simp; go_at_call 38; refine (ready_any _ _ _).mono ?_; rintro e w' ⟨rfl, rfl⟩) | (refine step_append rfl (.tmp 31) (.tmp 40) 90 rfl (appS (wr := wr) (B := w.heap.size + 2) (size := 2) 90 90 107 Try.underlying90 infoArg rfl (by decide) HW.out hsz (grown_of_below (by go_grown)) (by omega) (by omega) [.pointer (some ⟨wr.heap.size + 1, 0, none⟩), .string (N q)] rfl (fun u hu => by simp at hu; rcases hu with rfl | rfl <;> rfl) ⟨wr.heap.size + 1 + 1, 0, none⟩ 1 (cells_new (by simp))) ?_; rintro v1 w2 ⟨hown2, hg, hb⟩; obtain ⟨ao2, cq2, rfl⟩ := owns_slice hown2; have hB2 : Below (w.heap.size + 2) wr w2 := Below.grown (Below.mono (show Below wr.heap.size wr _ by go_grown) hsz) hg (by simp; omega) (fun b h => (hb b h).1); have hO2 := HO.out.below hB2; have k0 := hO2.c1; have k1 := hO2.f1))
          all_goals
            have hO3 := Lib.hid (hO2.set1 (.slice ao2 (q + 1) cq2))
            have hW3 := Lib.hid (own_set hown2 (a := ⟨w.heap.size + 1, 1, none⟩) (by simp) (.slice ao2 (q + 1) cq2))
            have hB3 : Below w.heap.size w (w2.setCell ⟨w.heap.size + 1, 1, none⟩ (.slice ao2 (q + 1) cq2)) := Below.setCell (hbel.trans (hB2.mono (by omega))) (by simp) _
            have hs3 : w.heap.size + 2 ≤ (w2.setCell ⟨w.heap.size + 1, 1, none⟩ (.slice ao2 (q + 1) cq2)).heap.size := by have := hB2.size; simp; omega
            clear hO2 hown2 hB2 k0 k1 hg hb p1 p2 p3 c1 f1
            go_wp2
            go_roundw
            case rel => exact ⟨q + 1, by omega, by go_num, ⟨ao2, cq2, _, by rw [hf.out]; exact hW3.out, hO3.out, HX2⟩, hs3, hB3⟩
            case measure => first | (simp [intOf]; done) | (simp [intOf]; omega)
        · obtain rfl : q = m := by omega
          clear hlt hq
          go_wp2
          refine bodyPost_ret (v := .agg #[.slice ao k cq, .slice an q cqn, .bool false]) (by simp [results, Try.results32, go_sem, d0, d1, d2]) rfl ?_
          exact ⟨ao, cq, an, cqn, X, rfl, owns_mono (own_set (own_set (own_set HW.out (by simp) _) (by simp) _) (by simp) _) (by omega), HX.out, by go_grown⟩
end Go.Proofs.Ythdlekfnmabldaa.fnArguments
