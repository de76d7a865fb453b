/-
  The statements on fodder: lists of elements in memory; the law's own tests of them.
-/
import Derived.Test.YthdlekfnmabldaaFodderParts
import Derived.Test.YthdlekfnmabldaaHeld
namespace Go.Proofs.Ythdlekfnmabldaa
open Go.RowKit
set_option linter.unusedSimpArgs false

/-- An element, and what its comment holds. -/
structure El where
  kind : Int
  blanks : Int
  indent : Int
  ca : Option Addr
  cl : Nat
  cc : Nat
  S : Nat → ByteArray

def El.val (e : El) : Value := .agg #[.int .i64 e.kind, .int .i64 e.blanks, .int .i64 e.indent, .slice e.ca e.cl e.cc]

def ElIn (w : World) (a : Addr) (e : El) : Prop :=
  w.cell? a = some (.int .i64 e.kind) ∧ w.cell? ⟨a.block, a.off + 1, none⟩ = some (.int .i64 e.blanks) ∧ w.cell? ⟨a.block, a.off + 2, none⟩ = some (.int .i64 e.indent) ∧ w.cell? ⟨a.block, a.off + 3, none⟩ = some (.slice e.ca e.cl e.cc) ∧ StrsIn w e.ca e.cl e.cc e.S

def ElsIn (w : World) (c : Option Addr) (len cap : Nat) (E : Nat → El) : Prop :=
  (c = none ∧ len = 0 ∧ cap = 0) ∨ ∃ a, c = some a ∧ len ≤ cap ∧ cap ≤ maxLen ∧ ∀ i, i < len → ElIn w (a.add (i * 4)) (E i)

theorem ElIn.below {w w' : World} {a : Addr} {e : El} (h : ElIn w a e) (hb : Below w.heap.size w w') : ElIn w' a e := by
  obtain ⟨h0, h1, h2, h3, h4⟩ := h
  exact ⟨cell_later hb h0, cell_later hb h1, cell_later hb h2, cell_later hb h3, h4.below hb⟩

theorem ElsIn.below {w w' : World} {c : Option Addr} {len cap : Nat} {E : Nat → El} (h : ElsIn w c len cap E) (hb : Below w.heap.size w w') : ElsIn w' c len cap E := by
  rcases h with h | ⟨a, rfl, h1, h2, h3⟩
  · exact .inl h
  · exact .inr ⟨a, rfl, h1, h2, fun i hi => (h3 i hi).below hb⟩

theorem below_step {B : Nat} {w x w1 : World} (hB : B ≤ w.heap.size) (h : Below B w x) (hb : Below x.heap.size x w1) : Below B w w1 := h.trans (hb.mono (Nat.le_trans hB h.size))

theorem fits7_any (c : Option Addr) (len cap : Nat) (E : Nat → El) (w : World) (h : ElsIn w c len cap E) :
    Calls Try.prog 6 #[.slice c len cap] w fun e w' => IsB (fun _ => True) e ∧ Below w.heap.size w w' := by
  rcases h with ⟨rfl, rfl, rfl⟩ | ⟨a, rfl, h1, h2, h3⟩
  · go_enter Try.func6, Try.ntmps6
    go_wp2
    go_rounds 1
    go_ret
    exact ⟨⟨true, rfl, trivial⟩, by go_grown⟩
  · by_cases hbig : (2147483647 : Int) < len
    · clear h3
      go_enter Try.func6, Try.ntmps6
      go_wp2
      go_ret
      exact ⟨⟨false, rfl, trivial⟩, by go_grown⟩
    · have HC : Hid _ := Lib.hid h3
      clear h3
      go_enter Try.func6, Try.ntmps6
      go_wp2
      go_loopw [10] (fun i wr => ∃ k : Nat, k ≤ len ∧ i = .int .i64 k ∧ Below w.heap.size w wr) (fun i _ => len - (intOf i).toNat)
      case atStart => exact ⟨0, Nat.zero_le _, rfl, by go_grown⟩
      case round =>
        obtain ⟨k, hk, rfl, hbel⟩ := hrel
        have hsz := hbel.size
        by_cases hlt : k < len
        · obtain ⟨c0, c1, c2, c3, hs⟩ := (HC.out k hlt).below hbel
          generalize E k = e at *
          obtain ⟨kind, blanks, indent, ca, cl, cc, S⟩ := e
          simp only at c0 c1 c2 c3
          have HS := Lib.hid hs
          clear hs
          go_wp2_with fail
          refine (fits8_any kind blanks indent ca cl cc S _ (HS.out.below (by go_grown))).mono ?_
          rintro e w1 ⟨⟨r, rfl, -⟩, hb⟩
          cases r
          · go_wp2
            go_ret
            exact ⟨⟨_, rfl, trivial⟩, below_step (Nat.le_refl _) (by go_grown) hb⟩
          · go_wp2
            go_roundw
            case rel => 
              exact ⟨k + 1, by omega, by go_num, below_step (Nat.le_refl _) (by go_grown) hb⟩
            case measure => simp [intOf]; omega
        · go_wp2
          go_ret
          exact ⟨⟨true, rfl, trivial⟩, by go_grown⟩

set_option maxHeartbeats 1600000 in
theorem fodder_any (c : Option Addr) (len cap : Nat) (E : Nat → El) (w : World) (h : ElsIn w c len cap E) :
    Calls Try.prog 7 #[.slice c len cap] w fun e w' => IsB (fun r => r = true → len ≤ 100 ∧ ∀ i, i < len → ElOk (E i).kind (E i).cl) e ∧ Below w.heap.size w w' := by
  rcases h with ⟨rfl, rfl, rfl⟩ | ⟨a, rfl, h1, h2, h3⟩
  · go_enter Try.func7, Try.ntmps7
    go_wp2
    go_rounds 1
    go_ret
    exact ⟨⟨true, rfl, fun _ => ⟨by omega, fun i hi => absurd hi (by omega)⟩⟩, by go_grown⟩
  · by_cases hbig : (100 : Int) < len
    · clear h3
      go_enter Try.func7, Try.ntmps7
      go_wp2
      go_ret
      exact ⟨⟨false, rfl, by simp⟩, by go_grown⟩
    · have HC : Hid _ := Lib.hid h3
      clear h3
      go_enter Try.func7, Try.ntmps7
      go_wp2
      go_loopw [3] (fun i wr => ∃ k : Nat, k ≤ len ∧ i = .int .i64 k ∧ Below w.heap.size w wr ∧ Hid (∀ j, j < k → ElOk (E j).kind (E j).cl)) (fun i _ => len - (intOf i).toNat)
      case atStart => exact ⟨0, Nat.zero_le _, rfl, by go_grown, Lib.hid (fun j hj => absurd hj (by omega))⟩
      case round =>
        obtain ⟨k, hk, rfl, hbel, HO⟩ := hrel
        have hsz := hbel.size
        by_cases hlt : k < len
        · obtain ⟨c0, c1, c2, c3, hs⟩ := (HC.out k hlt).below hbel
          generalize hE : E k = e at *
          obtain ⟨kind, blanks, indent, ca, cl, cc, S⟩ := e
          simp only at c0 c1 c2 c3
          have HE := Lib.hid hE
          have HS := Lib.hid hs
          clear hs hE
          by_cases k0 : k = 0
          · subst k0
            have ha0 : a.add (0 * 4) = a := rfl
            rw [ha0] at c0 c1 c2 c3
            cases HB : elB kind blanks indent cl S
            · go_wp2_with fail
              refine held_begin (S := fun w' => w'.cell? a = some (.int .i64 kind) ∧ w'.cell? ⟨a.block, a.off + 1, none⟩ = some (.int .i64 blanks) ∧ w'.cell? ⟨a.block, a.off + 2, none⟩ = some (.int .i64 indent) ∧ w'.cell? ⟨a.block, a.off + 3, none⟩ = some (.slice ca cl cc)) 23 (by rfl) (by kernel_rfl) ?_ (fun hHeld => ?_)
              · exact ⟨by simpa using c0, by simpa using c1, by simpa using c2, by simpa using c3⟩
              refine held_take 0 (some 13) (v := ?_) rfl rfl (by kernel_rfl) (by kernel_rfl) (by kernel_rfl) (fun _ _ _ _ h => h) (by kernel_rfl) ?_ hHeld ?_
              rotate_left 1
              · intro w hSw; (try dsimp only at hSw); go_simp; (try with_reducible rfl)
              try simp only [List.foldl_cons, List.foldl_nil, List.length_cons, List.length_nil, Act.put, List.setIfInBounds_toArray, List.set_cons_zero, List.set_cons_succ]
              refine held_take 1 (some 14) (v := ?_) rfl rfl (by kernel_rfl) (by kernel_rfl) (by kernel_rfl) (fun _ _ _ _ h => h) (by kernel_rfl) ?_ hHeld ?_
              rotate_left 1
              · intro w hSw; (try dsimp only at hSw); go_simp; (try with_reducible rfl)
              try simp only [List.foldl_cons, List.foldl_nil, List.length_cons, List.length_nil, Act.put, List.setIfInBounds_toArray, List.set_cons_zero, List.set_cons_succ]
              refine held_take 2 (some 15) (v := ?_) rfl rfl (by kernel_rfl) (by kernel_rfl) (by kernel_rfl) (fun _ _ _ _ h => h) (by kernel_rfl) ?_ hHeld ?_
              rotate_left 1
              · intro w hSw; (try dsimp only at hSw); go_simp; (try with_reducible rfl)
              try simp only [List.foldl_cons, List.foldl_nil, List.length_cons, List.length_nil, Act.put, List.setIfInBounds_toArray, List.set_cons_zero, List.set_cons_succ]
              refine held_take 3 (some 16) (v := ?_) rfl rfl (by kernel_rfl) (by kernel_rfl) (by kernel_rfl) (fun _ _ _ _ h => h) (by kernel_rfl) ?_ hHeld ?_
              rotate_left 1
              · intro w hSw; (try dsimp only at hSw); go_simp; (try with_reducible rfl)
              try simp only [List.foldl_cons, List.foldl_nil, List.length_cons, List.length_nil, Act.put, List.setIfInBounds_toArray, List.set_cons_zero, List.set_cons_succ]
              refine wpAnyH_ready (rs := [4]) (by kernel_rfl) (by simp) ?_
              refine AllReadyH.cons rfl (fun K hK => ?_) AllReadyH.nil
              go_simp
              (go_at_call 18; refine (element_any kind blanks indent ca cl cc S _ ?_).mono ?_; (exact HS.out.below (by go_grown)); rintro e w1 ⟨rfl, hb⟩; rw [HB])
              go_wp2_with fail
              have hOld := hHeld
              clear hHeld
              refine hK.out _ _ ?_ (fun hHeld => ?_)
              · exact ⟨cell_later hb c0, cell_later hb c1, cell_later hb c2, cell_later hb c3⟩
              clear hK K hOld
              try simp only [List.foldl_cons, List.foldl_nil, List.length_cons, List.length_nil, Act.put, List.setIfInBounds_toArray, List.set_cons_zero, List.set_cons_succ]
              refine held_take 5 (some 18) (v := ?_) rfl rfl (by kernel_rfl) (by kernel_rfl) (by kernel_rfl) (fun _ _ _ _ h => h) (by kernel_rfl) ?_ hHeld ?_
              rotate_left 1
              · intro w hSw; (try dsimp only at hSw); go_simp; (try with_reducible rfl)
              try simp only [List.foldl_cons, List.foldl_nil, List.length_cons, List.length_nil, Act.put, List.setIfInBounds_toArray, List.set_cons_zero, List.set_cons_succ]
              refine held_take 6 (some 19) (v := ?_) rfl rfl (by kernel_rfl) (by kernel_rfl) (by kernel_rfl) (fun _ _ _ _ h => h) (by kernel_rfl) ?_ hHeld ?_
              rotate_left 1
              · intro w hSw; (try dsimp only at hSw); go_simp; (try with_reducible rfl)
              try simp only [List.foldl_cons, List.foldl_nil, List.length_cons, List.length_nil, Act.put, List.setIfInBounds_toArray, List.set_cons_zero, List.set_cons_succ]
              refine held_skips (fuel := 1) (by kernel_rfl) (fun _ _ _ _ h => h) [(7, some 20), (8, some 21), (9, some 22), (10, some 23), (11, some 24), (12, some 25), (13, some 26), (14, some 27), (15, some 28), (16, some 29), (17, some 30), (18, some 31), (19, some 32), (20, some 33), (21, some 34)] (by kernel_rfl) hHeld ?_
              try simp only [List.foldl_cons, List.foldl_nil, List.length_cons, List.length_nil, Act.put, List.setIfInBounds_toArray, List.set_cons_zero, List.set_cons_succ]
              refine held_take 22 (some 35) (v := ?_) rfl rfl (by kernel_rfl) (by kernel_rfl) (by kernel_rfl) (fun _ _ _ _ h => h) (by kernel_rfl) ?_ hHeld ?_
              rotate_left 1
              · intro w hSw; (try dsimp only at hSw); go_simp; (try with_reducible rfl)
              try simp only [List.foldl_cons, List.foldl_nil, List.length_cons, List.length_nil, Act.put, List.setIfInBounds_toArray, List.set_cons_zero, List.set_cons_succ]
              refine wpAnyH_done (by kernel_rfl) ?_ _
              go_wp2
              go_ret
              exact ⟨⟨_, rfl, by simp⟩, below_step (Nat.le_refl _) (by go_grown) hb⟩
            · have HO' : Hid (∀ j, j < 0 + 1 → ElOk (E j).kind (E j).cl) := Lib.hid (fun j hj => by
                by_cases hjk : j < 0
                · exact HO.out j hjk
                · obtain rfl : j = 0 := by omega
                  rw [HE.out]
                  exact elB_ok HB)
              clear HO
              go_wp2_with fail
              refine held_begin (S := fun w' => w'.cell? a = some (.int .i64 kind) ∧ w'.cell? ⟨a.block, a.off + 1, none⟩ = some (.int .i64 blanks) ∧ w'.cell? ⟨a.block, a.off + 2, none⟩ = some (.int .i64 indent) ∧ w'.cell? ⟨a.block, a.off + 3, none⟩ = some (.slice ca cl cc)) 23 (by rfl) (by kernel_rfl) ?_ (fun hHeld => ?_)
              · exact ⟨by simpa using c0, by simpa using c1, by simpa using c2, by simpa using c3⟩
              refine held_take 0 (some 13) (v := ?_) rfl rfl (by kernel_rfl) (by kernel_rfl) (by kernel_rfl) (fun _ _ _ _ h => h) (by kernel_rfl) ?_ hHeld ?_
              rotate_left 1
              · intro w hSw; (try dsimp only at hSw); go_simp; (try with_reducible rfl)
              try simp only [List.foldl_cons, List.foldl_nil, List.length_cons, List.length_nil, Act.put, List.setIfInBounds_toArray, List.set_cons_zero, List.set_cons_succ]
              refine held_take 1 (some 14) (v := ?_) rfl rfl (by kernel_rfl) (by kernel_rfl) (by kernel_rfl) (fun _ _ _ _ h => h) (by kernel_rfl) ?_ hHeld ?_
              rotate_left 1
              · intro w hSw; (try dsimp only at hSw); go_simp; (try with_reducible rfl)
              try simp only [List.foldl_cons, List.foldl_nil, List.length_cons, List.length_nil, Act.put, List.setIfInBounds_toArray, List.set_cons_zero, List.set_cons_succ]
              refine held_take 2 (some 15) (v := ?_) rfl rfl (by kernel_rfl) (by kernel_rfl) (by kernel_rfl) (fun _ _ _ _ h => h) (by kernel_rfl) ?_ hHeld ?_
              rotate_left 1
              · intro w hSw; (try dsimp only at hSw); go_simp; (try with_reducible rfl)
              try simp only [List.foldl_cons, List.foldl_nil, List.length_cons, List.length_nil, Act.put, List.setIfInBounds_toArray, List.set_cons_zero, List.set_cons_succ]
              refine held_take 3 (some 16) (v := ?_) rfl rfl (by kernel_rfl) (by kernel_rfl) (by kernel_rfl) (fun _ _ _ _ h => h) (by kernel_rfl) ?_ hHeld ?_
              rotate_left 1
              · intro w hSw; (try dsimp only at hSw); go_simp; (try with_reducible rfl)
              try simp only [List.foldl_cons, List.foldl_nil, List.length_cons, List.length_nil, Act.put, List.setIfInBounds_toArray, List.set_cons_zero, List.set_cons_succ]
              refine wpAnyH_ready (rs := [4]) (by kernel_rfl) (by simp) ?_
              refine AllReadyH.cons rfl (fun K hK => ?_) AllReadyH.nil
              go_simp
              (go_at_call 18; refine (element_any kind blanks indent ca cl cc S _ ?_).mono ?_; (exact HS.out.below (by go_grown)); rintro e w1 ⟨rfl, hb⟩; rw [HB])
              go_wp2_with fail
              have hOld := hHeld
              clear hHeld
              refine hK.out _ _ ?_ (fun hHeld => ?_)
              · exact ⟨cell_later hb c0, cell_later hb c1, cell_later hb c2, cell_later hb c3⟩
              clear hK K hOld
              try simp only [List.foldl_cons, List.foldl_nil, List.length_cons, List.length_nil, Act.put, List.setIfInBounds_toArray, List.set_cons_zero, List.set_cons_succ]
              refine held_take 5 (some 18) (v := ?_) rfl rfl (by kernel_rfl) (by kernel_rfl) (by kernel_rfl) (fun _ _ _ _ h => h) (by kernel_rfl) ?_ hHeld ?_
              rotate_left 1
              · intro w hSw; (try dsimp only at hSw); go_simp; (try with_reducible rfl)
              try simp only [List.foldl_cons, List.foldl_nil, List.length_cons, List.length_nil, Act.put, List.setIfInBounds_toArray, List.set_cons_zero, List.set_cons_succ]
              refine held_take 6 (some 19) (v := ?_) rfl rfl (by kernel_rfl) (by kernel_rfl) (by kernel_rfl) (fun _ _ _ _ h => h) (by kernel_rfl) ?_ hHeld ?_
              rotate_left 1
              · intro w hSw; (try dsimp only at hSw); go_simp; (try with_reducible rfl)
              try simp only [List.foldl_cons, List.foldl_nil, List.length_cons, List.length_nil, Act.put, List.setIfInBounds_toArray, List.set_cons_zero, List.set_cons_succ]
              refine held_take 7 (some 20) (v := ?_) rfl rfl (by kernel_rfl) (by kernel_rfl) (by kernel_rfl) (fun _ _ _ _ h => h) (by kernel_rfl) ?_ hHeld ?_
              rotate_left 1
              · intro w hSw; (try dsimp only at hSw); go_simp; (try with_reducible rfl)
              try simp only [List.foldl_cons, List.foldl_nil, List.length_cons, List.length_nil, Act.put, List.setIfInBounds_toArray, List.set_cons_zero, List.set_cons_succ]
              refine held_take 8 (some 21) (v := ?_) rfl rfl (by kernel_rfl) (by kernel_rfl) (by kernel_rfl) (fun _ _ _ _ h => h) (by kernel_rfl) ?_ hHeld ?_
              rotate_left 1
              · intro w hSw; (try dsimp only at hSw); go_simp; (try with_reducible rfl)
              try simp only [List.foldl_cons, List.foldl_nil, List.length_cons, List.length_nil, Act.put, List.setIfInBounds_toArray, List.set_cons_zero, List.set_cons_succ]
              refine held_take 9 (some 22) (v := ?_) rfl rfl (by kernel_rfl) (by kernel_rfl) (by kernel_rfl) (fun _ _ _ _ h => h) (by kernel_rfl) ?_ hHeld ?_
              rotate_left 1
              · intro w hSw; (try dsimp only at hSw); go_simp; (try with_reducible rfl)
              try simp only [List.foldl_cons, List.foldl_nil, List.length_cons, List.length_nil, Act.put, List.setIfInBounds_toArray, List.set_cons_zero, List.set_cons_succ]
              refine held_skips (fuel := 2) (by kernel_rfl) (fun _ _ _ _ h => h) [(10, some 23), (11, some 24), (12, some 25), (13, some 26), (14, some 27), (15, some 28), (16, some 29), (17, some 30), (18, some 31), (19, some 32), (20, some 33)] (by kernel_rfl) hHeld ?_
              try simp only [List.foldl_cons, List.foldl_nil, List.length_cons, List.length_nil, Act.put, List.setIfInBounds_toArray, List.set_cons_zero, List.set_cons_succ]
              refine held_take 21 (some 34) (v := ?_) rfl rfl (by kernel_rfl) (by kernel_rfl) (by kernel_rfl) (fun _ _ _ _ h => h) (by kernel_rfl) ?_ hHeld ?_
              rotate_left 1
              · intro w hSw; (try dsimp only at hSw); go_simp; (try with_reducible rfl)
              try simp only [List.foldl_cons, List.foldl_nil, List.length_cons, List.length_nil, Act.put, List.setIfInBounds_toArray, List.set_cons_zero, List.set_cons_succ]
              refine held_take 22 (some 35) (v := ?_) rfl rfl (by kernel_rfl) (by kernel_rfl) (by kernel_rfl) (fun _ _ _ _ h => h) (by kernel_rfl) ?_ hHeld ?_
              rotate_left 1
              · intro w hSw; (try dsimp only at hSw); go_simp; (try with_reducible rfl)
              try simp only [List.foldl_cons, List.foldl_nil, List.length_cons, List.length_nil, Act.put, List.setIfInBounds_toArray, List.set_cons_zero, List.set_cons_succ]
              refine wpAnyH_done (by kernel_rfl) ?_ _
              go_wp2
              go_roundw
              case rel => exact ⟨0 + 1, by omega, by go_num, below_step (Nat.le_refl _) (by go_grown) hb, HO'⟩
              case measure => simp [intOf]; omega
          · obtain ⟨d0, d1, d2, d3, ht⟩ := (HC.out (k - 1) (by omega)).below hbel
            generalize hE' : E (k - 1) = e' at *
            obtain ⟨kind', blanks', indent', ca', cl', cc', S'⟩ := e'
            simp only at d0 d1 d2 d3
            have hkm : ((k : Int) - 1).toNat = k - 1 := by omega
            have hkb : (1 : Int) ≤ (k : Int) := by omega
            have hkp : 0 < k := by omega
            have hkc : (k : Int) - 1 < len := by omega
            have hkw : IntKind.i64.wrap ((k : Int) - 1) = (k : Int) - 1 := by rw [IntWalk.i64_in] <;> omega
            clear ht hE'
            cases HB : elB kind blanks indent cl S
            · go_wp2_with fail
              refine held_begin (S := fun w' => w'.cell? (a.add (k * 4)) = some (.int .i64 kind) ∧ w'.cell? ⟨(a.add (k * 4)).block, (a.add (k * 4)).off + 1, none⟩ = some (.int .i64 blanks) ∧ w'.cell? ⟨(a.add (k * 4)).block, (a.add (k * 4)).off + 2, none⟩ = some (.int .i64 indent) ∧ w'.cell? ⟨(a.add (k * 4)).block, (a.add (k * 4)).off + 3, none⟩ = some (.slice ca cl cc) ∧ w'.cell? (a.add ((k - 1) * 4)) = some (.int .i64 kind') ∧ w'.cell? ⟨(a.add ((k - 1) * 4)).block, (a.add ((k - 1) * 4)).off + 1, none⟩ = some (.int .i64 blanks') ∧ w'.cell? ⟨(a.add ((k - 1) * 4)).block, (a.add ((k - 1) * 4)).off + 2, none⟩ = some (.int .i64 indent') ∧ w'.cell? ⟨(a.add ((k - 1) * 4)).block, (a.add ((k - 1) * 4)).off + 3, none⟩ = some (.slice ca' cl' cc')) 23 (by rfl) (by kernel_rfl) ?_ (fun hHeld => ?_)
              · exact ⟨by simpa using c0, by simpa using c1, by simpa using c2, by simpa using c3, by simpa using d0, by simpa using d1, by simpa using d2, by simpa using d3⟩
              refine held_take 0 (some 13) (v := ?_) rfl rfl (by kernel_rfl) (by kernel_rfl) (by kernel_rfl) (fun _ _ _ _ h => h) (by kernel_rfl) ?_ hHeld ?_
              rotate_left 1
              · intro w hSw; (try dsimp only at hSw); go_simp; (try with_reducible rfl)
              try simp only [List.foldl_cons, List.foldl_nil, List.length_cons, List.length_nil, Act.put, List.setIfInBounds_toArray, List.set_cons_zero, List.set_cons_succ]
              refine held_take 1 (some 14) (v := ?_) rfl rfl (by kernel_rfl) (by kernel_rfl) (by kernel_rfl) (fun _ _ _ _ h => h) (by kernel_rfl) ?_ hHeld ?_
              rotate_left 1
              · intro w hSw; (try dsimp only at hSw); go_simp; (try with_reducible rfl)
              try simp only [List.foldl_cons, List.foldl_nil, List.length_cons, List.length_nil, Act.put, List.setIfInBounds_toArray, List.set_cons_zero, List.set_cons_succ]
              refine held_take 2 (some 15) (v := ?_) rfl rfl (by kernel_rfl) (by kernel_rfl) (by kernel_rfl) (fun _ _ _ _ h => h) (by kernel_rfl) ?_ hHeld ?_
              rotate_left 1
              · intro w hSw; (try dsimp only at hSw); go_simp; (try with_reducible rfl)
              try simp only [List.foldl_cons, List.foldl_nil, List.length_cons, List.length_nil, Act.put, List.setIfInBounds_toArray, List.set_cons_zero, List.set_cons_succ]
              refine held_take 3 (some 16) (v := ?_) rfl rfl (by kernel_rfl) (by kernel_rfl) (by kernel_rfl) (fun _ _ _ _ h => h) (by kernel_rfl) ?_ hHeld ?_
              rotate_left 1
              · intro w hSw; (try dsimp only at hSw); go_simp; (try with_reducible rfl)
              try simp only [List.foldl_cons, List.foldl_nil, List.length_cons, List.length_nil, Act.put, List.setIfInBounds_toArray, List.set_cons_zero, List.set_cons_succ]
              refine wpAnyH_ready (rs := [4]) (by kernel_rfl) (by simp) ?_
              refine AllReadyH.cons rfl (fun K hK => ?_) AllReadyH.nil
              go_simp
              (go_at_call 18; refine (element_any kind blanks indent ca cl cc S _ ?_).mono ?_; (exact HS.out.below (by go_grown)); rintro e w1 ⟨rfl, hb⟩; rw [HB])
              go_wp2_with fail
              have hOld := hHeld
              clear hHeld
              refine hK.out _ _ ?_ (fun hHeld => ?_)
              · exact ⟨cell_later hb c0, cell_later hb c1, cell_later hb c2, cell_later hb c3, cell_later hb d0, cell_later hb d1, cell_later hb d2, cell_later hb d3⟩
              clear hK K hOld
              try simp only [List.foldl_cons, List.foldl_nil, List.length_cons, List.length_nil, Act.put, List.setIfInBounds_toArray, List.set_cons_zero, List.set_cons_succ]
              refine held_take 5 (some 18) (v := ?_) rfl rfl (by kernel_rfl) (by kernel_rfl) (by kernel_rfl) (fun _ _ _ _ h => h) (by kernel_rfl) ?_ hHeld ?_
              rotate_left 1
              · intro w hSw; (try dsimp only at hSw); go_simp; (try with_reducible rfl)
              try simp only [List.foldl_cons, List.foldl_nil, List.length_cons, List.length_nil, Act.put, List.setIfInBounds_toArray, List.set_cons_zero, List.set_cons_succ]
              refine held_take 6 (some 19) (v := ?_) rfl rfl (by kernel_rfl) (by kernel_rfl) (by kernel_rfl) (fun _ _ _ _ h => h) (by kernel_rfl) ?_ hHeld ?_
              rotate_left 1
              · intro w hSw; (try dsimp only at hSw); go_simp; (try with_reducible rfl)
              try simp only [List.foldl_cons, List.foldl_nil, List.length_cons, List.length_nil, Act.put, List.setIfInBounds_toArray, List.set_cons_zero, List.set_cons_succ]
              refine held_skips (fuel := 1) (by kernel_rfl) (fun _ _ _ _ h => h) [(7, some 20), (8, some 21), (9, some 22), (10, some 23), (11, some 24), (12, some 25), (13, some 26), (14, some 27), (15, some 28), (16, some 29), (17, some 30), (18, some 31), (19, some 32), (20, some 33), (21, some 34)] (by kernel_rfl) hHeld ?_
              try simp only [List.foldl_cons, List.foldl_nil, List.length_cons, List.length_nil, Act.put, List.setIfInBounds_toArray, List.set_cons_zero, List.set_cons_succ]
              refine held_take 22 (some 35) (v := ?_) rfl rfl (by kernel_rfl) (by kernel_rfl) (by kernel_rfl) (fun _ _ _ _ h => h) (by kernel_rfl) ?_ hHeld ?_
              rotate_left 1
              · intro w hSw; (try dsimp only at hSw); go_simp; (try with_reducible rfl)
              try simp only [List.foldl_cons, List.foldl_nil, List.length_cons, List.length_nil, Act.put, List.setIfInBounds_toArray, List.set_cons_zero, List.set_cons_succ]
              refine wpAnyH_done (by kernel_rfl) ?_ _
              go_wp2
              go_ret
              exact ⟨⟨_, rfl, by simp⟩, below_step (Nat.le_refl _) (by go_grown) hb⟩
            · cases HF : followsB kind' kind
              · go_wp2_with fail
                refine held_begin (S := fun w' => w'.cell? (a.add (k * 4)) = some (.int .i64 kind) ∧ w'.cell? ⟨(a.add (k * 4)).block, (a.add (k * 4)).off + 1, none⟩ = some (.int .i64 blanks) ∧ w'.cell? ⟨(a.add (k * 4)).block, (a.add (k * 4)).off + 2, none⟩ = some (.int .i64 indent) ∧ w'.cell? ⟨(a.add (k * 4)).block, (a.add (k * 4)).off + 3, none⟩ = some (.slice ca cl cc) ∧ w'.cell? (a.add ((k - 1) * 4)) = some (.int .i64 kind') ∧ w'.cell? ⟨(a.add ((k - 1) * 4)).block, (a.add ((k - 1) * 4)).off + 1, none⟩ = some (.int .i64 blanks') ∧ w'.cell? ⟨(a.add ((k - 1) * 4)).block, (a.add ((k - 1) * 4)).off + 2, none⟩ = some (.int .i64 indent') ∧ w'.cell? ⟨(a.add ((k - 1) * 4)).block, (a.add ((k - 1) * 4)).off + 3, none⟩ = some (.slice ca' cl' cc')) 23 (by rfl) (by kernel_rfl) ?_ (fun hHeld => ?_)
                · exact ⟨by simpa using c0, by simpa using c1, by simpa using c2, by simpa using c3, by simpa using d0, by simpa using d1, by simpa using d2, by simpa using d3⟩
                refine held_take 0 (some 13) (v := ?_) rfl rfl (by kernel_rfl) (by kernel_rfl) (by kernel_rfl) (fun _ _ _ _ h => h) (by kernel_rfl) ?_ hHeld ?_
                rotate_left 1
                · intro w hSw; (try dsimp only at hSw); go_simp; (try with_reducible rfl)
                try simp only [List.foldl_cons, List.foldl_nil, List.length_cons, List.length_nil, Act.put, List.setIfInBounds_toArray, List.set_cons_zero, List.set_cons_succ]
                refine held_take 1 (some 14) (v := ?_) rfl rfl (by kernel_rfl) (by kernel_rfl) (by kernel_rfl) (fun _ _ _ _ h => h) (by kernel_rfl) ?_ hHeld ?_
                rotate_left 1
                · intro w hSw; (try dsimp only at hSw); go_simp; (try with_reducible rfl)
                try simp only [List.foldl_cons, List.foldl_nil, List.length_cons, List.length_nil, Act.put, List.setIfInBounds_toArray, List.set_cons_zero, List.set_cons_succ]
                refine held_take 2 (some 15) (v := ?_) rfl rfl (by kernel_rfl) (by kernel_rfl) (by kernel_rfl) (fun _ _ _ _ h => h) (by kernel_rfl) ?_ hHeld ?_
                rotate_left 1
                · intro w hSw; (try dsimp only at hSw); go_simp; (try with_reducible rfl)
                try simp only [List.foldl_cons, List.foldl_nil, List.length_cons, List.length_nil, Act.put, List.setIfInBounds_toArray, List.set_cons_zero, List.set_cons_succ]
                refine held_take 3 (some 16) (v := ?_) rfl rfl (by kernel_rfl) (by kernel_rfl) (by kernel_rfl) (fun _ _ _ _ h => h) (by kernel_rfl) ?_ hHeld ?_
                rotate_left 1
                · intro w hSw; (try dsimp only at hSw); go_simp; (try with_reducible rfl)
                try simp only [List.foldl_cons, List.foldl_nil, List.length_cons, List.length_nil, Act.put, List.setIfInBounds_toArray, List.set_cons_zero, List.set_cons_succ]
                refine wpAnyH_ready (rs := [4]) (by kernel_rfl) (by simp) ?_
                refine AllReadyH.cons rfl (fun K hK => ?_) AllReadyH.nil
                go_simp
                (go_at_call 18; refine (element_any kind blanks indent ca cl cc S _ ?_).mono ?_; (exact HS.out.below (by go_grown)); rintro e w1 ⟨rfl, hb⟩; rw [HB])
                go_wp2_with fail
                have hOld := hHeld
                clear hHeld
                refine hK.out _ _ ?_ (fun hHeld => ?_)
                · exact ⟨cell_later hb c0, cell_later hb c1, cell_later hb c2, cell_later hb c3, cell_later hb d0, cell_later hb d1, cell_later hb d2, cell_later hb d3⟩
                clear hK K hOld
                try simp only [List.foldl_cons, List.foldl_nil, List.length_cons, List.length_nil, Act.put, List.setIfInBounds_toArray, List.set_cons_zero, List.set_cons_succ]
                refine held_take 5 (some 18) (v := ?_) rfl rfl (by kernel_rfl) (by kernel_rfl) (by kernel_rfl) (fun _ _ _ _ h => h) (by kernel_rfl) ?_ hHeld ?_
                rotate_left 1
                · intro w hSw; (try dsimp only at hSw); go_simp; (try with_reducible rfl)
                try simp only [List.foldl_cons, List.foldl_nil, List.length_cons, List.length_nil, Act.put, List.setIfInBounds_toArray, List.set_cons_zero, List.set_cons_succ]
                refine held_take 6 (some 19) (v := ?_) rfl rfl (by kernel_rfl) (by kernel_rfl) (by kernel_rfl) (fun _ _ _ _ h => h) (by kernel_rfl) ?_ hHeld ?_
                rotate_left 1
                · intro w hSw; (try dsimp only at hSw); go_simp; (try with_reducible rfl)
                try simp only [List.foldl_cons, List.foldl_nil, List.length_cons, List.length_nil, Act.put, List.setIfInBounds_toArray, List.set_cons_zero, List.set_cons_succ]
                refine held_take 7 (some 20) (v := ?_) rfl rfl (by kernel_rfl) (by kernel_rfl) (by kernel_rfl) (fun _ _ _ _ h => h) (by kernel_rfl) ?_ hHeld ?_
                rotate_left 1
                · intro w hSw; (try dsimp only at hSw); go_simp; (try with_reducible rfl)
                try simp only [List.foldl_cons, List.foldl_nil, List.length_cons, List.length_nil, Act.put, List.setIfInBounds_toArray, List.set_cons_zero, List.set_cons_succ]
                refine held_take 8 (some 21) (v := ?_) rfl rfl (by kernel_rfl) (by kernel_rfl) (by kernel_rfl) (fun _ _ _ _ h => h) (by kernel_rfl) ?_ hHeld ?_
                rotate_left 1
                · intro w hSw; (try dsimp only at hSw); go_simp; (try with_reducible rfl)
                try simp only [List.foldl_cons, List.foldl_nil, List.length_cons, List.length_nil, Act.put, List.setIfInBounds_toArray, List.set_cons_zero, List.set_cons_succ]
                refine held_take 9 (some 22) (v := ?_) rfl rfl (by kernel_rfl) (by kernel_rfl) (by kernel_rfl) (fun _ _ _ _ h => h) (by kernel_rfl) ?_ hHeld ?_
                rotate_left 1
                · intro w hSw; (try dsimp only at hSw); go_simp; (try with_reducible rfl)
                try simp only [List.foldl_cons, List.foldl_nil, List.length_cons, List.length_nil, Act.put, List.setIfInBounds_toArray, List.set_cons_zero, List.set_cons_succ]
                refine held_take 10 (some 23) (v := ?_) rfl rfl (by kernel_rfl) (by kernel_rfl) (by kernel_rfl) (fun _ _ _ _ h => h) (by kernel_rfl) ?_ hHeld ?_
                rotate_left 1
                · intro w hSw; (try dsimp only at hSw); go_simp; (try with_reducible rfl)
                try simp only [List.foldl_cons, List.foldl_nil, List.length_cons, List.length_nil, Act.put, List.setIfInBounds_toArray, List.set_cons_zero, List.set_cons_succ]
                refine held_take 11 (some 24) (v := ?_) rfl rfl (by kernel_rfl) (by kernel_rfl) (by kernel_rfl) (fun _ _ _ _ h => h) (by kernel_rfl) ?_ hHeld ?_
                rotate_left 1
                · intro w hSw; (try dsimp only at hSw); go_simp; (try with_reducible rfl)
                try simp only [List.foldl_cons, List.foldl_nil, List.length_cons, List.length_nil, Act.put, List.setIfInBounds_toArray, List.set_cons_zero, List.set_cons_succ]
                refine held_take 12 (some 25) (v := ?_) rfl rfl (by kernel_rfl) (by kernel_rfl) (by kernel_rfl) (fun _ _ _ _ h => h) (by kernel_rfl) ?_ hHeld ?_
                rotate_left 1
                · intro w hSw; (try dsimp only at hSw); go_simp; (try with_reducible rfl)
                try simp only [List.foldl_cons, List.foldl_nil, List.length_cons, List.length_nil, Act.put, List.setIfInBounds_toArray, List.set_cons_zero, List.set_cons_succ]
                refine held_take 13 (some 26) (v := ?_) rfl rfl (by kernel_rfl) (by kernel_rfl) (by kernel_rfl) (fun _ _ _ _ h => h) (by kernel_rfl) ?_ hHeld ?_
                rotate_left 1
                · intro w hSw; (try dsimp only at hSw); go_simp; (try with_reducible rfl)
                try simp only [List.foldl_cons, List.foldl_nil, List.length_cons, List.length_nil, Act.put, List.setIfInBounds_toArray, List.set_cons_zero, List.set_cons_succ]
                refine held_take 14 (some 27) (v := ?_) rfl rfl (by kernel_rfl) (by kernel_rfl) (by kernel_rfl) (fun _ _ _ _ h => h) (by kernel_rfl) ?_ hHeld ?_
                rotate_left 1
                · intro w hSw; (try dsimp only at hSw); go_simp; (try with_reducible rfl)
                try simp only [List.foldl_cons, List.foldl_nil, List.length_cons, List.length_nil, Act.put, List.setIfInBounds_toArray, List.set_cons_zero, List.set_cons_succ]
                refine held_take 15 (some 28) (v := ?_) rfl rfl (by kernel_rfl) (by kernel_rfl) (by kernel_rfl) (fun _ _ _ _ h => h) (by kernel_rfl) ?_ hHeld ?_
                rotate_left 1
                · intro w hSw; (try dsimp only at hSw); go_simp; (try with_reducible rfl)
                try simp only [List.foldl_cons, List.foldl_nil, List.length_cons, List.length_nil, Act.put, List.setIfInBounds_toArray, List.set_cons_zero, List.set_cons_succ]
                refine held_take 16 (some 29) (v := ?_) rfl rfl (by kernel_rfl) (by kernel_rfl) (by kernel_rfl) (fun _ _ _ _ h => h) (by kernel_rfl) ?_ hHeld ?_
                rotate_left 1
                · intro w hSw; (try dsimp only at hSw); go_simp; (try with_reducible rfl)
                try simp only [List.foldl_cons, List.foldl_nil, List.length_cons, List.length_nil, Act.put, List.setIfInBounds_toArray, List.set_cons_zero, List.set_cons_succ]
                refine held_take 17 (some 30) (v := ?_) rfl rfl (by kernel_rfl) (by kernel_rfl) (by kernel_rfl) (fun _ _ _ _ h => h) (by kernel_rfl) ?_ hHeld ?_
                rotate_left 1
                · intro w hSw; (try dsimp only at hSw); go_simp; (try with_reducible rfl)
                try simp only [List.foldl_cons, List.foldl_nil, List.length_cons, List.length_nil, Act.put, List.setIfInBounds_toArray, List.set_cons_zero, List.set_cons_succ]
                refine held_take 18 (some 31) (v := ?_) rfl rfl (by kernel_rfl) (by kernel_rfl) (by kernel_rfl) (fun _ _ _ _ h => h) (by kernel_rfl) ?_ hHeld ?_
                rotate_left 1
                · intro w hSw; (try dsimp only at hSw); go_simp; (try with_reducible rfl)
                try simp only [List.foldl_cons, List.foldl_nil, List.length_cons, List.length_nil, Act.put, List.setIfInBounds_toArray, List.set_cons_zero, List.set_cons_succ]
                refine wpAnyH_ready (rs := [19]) (by kernel_rfl) (by simp) ?_
                refine AllReadyH.cons rfl (fun K hK => ?_) AllReadyH.nil
                go_simp
                (go_at_call 19; refine (follows_any _ _ _ _ _ _ _ _ _).mono ?_; rintro e w2 ⟨rfl, hb'⟩; rw [HF])
                go_wp2_with fail
                have hOld := hHeld
                clear hHeld
                refine hK.out _ _ ?_ (fun hHeld => ?_)
                · exact ⟨cell_later hb' hOld.1, cell_later hb' hOld.2.1, cell_later hb' hOld.2.2.1, cell_later hb' hOld.2.2.2.1, cell_later hb' hOld.2.2.2.2.1, cell_later hb' hOld.2.2.2.2.2.1, cell_later hb' hOld.2.2.2.2.2.2.1, cell_later hb' hOld.2.2.2.2.2.2.2⟩
                clear hK K hOld
                try simp only [List.foldl_cons, List.foldl_nil, List.length_cons, List.length_nil, Act.put, List.setIfInBounds_toArray, List.set_cons_zero, List.set_cons_succ]
                refine held_take 20 (some 33) (v := ?_) rfl rfl (by kernel_rfl) (by kernel_rfl) (by kernel_rfl) (fun _ _ _ _ h => h) (by kernel_rfl) ?_ hHeld ?_
                rotate_left 1
                · intro w hSw; (try dsimp only at hSw); go_simp; (try with_reducible rfl)
                try simp only [List.foldl_cons, List.foldl_nil, List.length_cons, List.length_nil, Act.put, List.setIfInBounds_toArray, List.set_cons_zero, List.set_cons_succ]
                refine held_take 21 (some 34) (v := ?_) rfl rfl (by kernel_rfl) (by kernel_rfl) (by kernel_rfl) (fun _ _ _ _ h => h) (by kernel_rfl) ?_ hHeld ?_
                rotate_left 1
                · intro w hSw; (try dsimp only at hSw); go_simp; (try with_reducible rfl)
                try simp only [List.foldl_cons, List.foldl_nil, List.length_cons, List.length_nil, Act.put, List.setIfInBounds_toArray, List.set_cons_zero, List.set_cons_succ]
                refine held_take 22 (some 35) (v := ?_) rfl rfl (by kernel_rfl) (by kernel_rfl) (by kernel_rfl) (fun _ _ _ _ h => h) (by kernel_rfl) ?_ hHeld ?_
                rotate_left 1
                · intro w hSw; (try dsimp only at hSw); go_simp; (try with_reducible rfl)
                try simp only [List.foldl_cons, List.foldl_nil, List.length_cons, List.length_nil, Act.put, List.setIfInBounds_toArray, List.set_cons_zero, List.set_cons_succ]
                refine wpAnyH_done (by kernel_rfl) ?_ _
                go_wp2
                go_ret
                exact ⟨⟨_, rfl, by simp⟩, below_step (Nat.le_refl _) (below_step (Nat.le_refl _) (by go_grown) hb) hb'⟩
              · have HO' : Hid (∀ j, j < k + 1 → ElOk (E j).kind (E j).cl) := Lib.hid (fun j hj => by
                  by_cases hjk : j < k
                  · exact HO.out j hjk
                  · obtain rfl : j = k := by omega
                    rw [HE.out]
                    exact elB_ok HB)
                clear HO
                go_wp2_with fail
                refine held_begin (S := fun w' => w'.cell? (a.add (k * 4)) = some (.int .i64 kind) ∧ w'.cell? ⟨(a.add (k * 4)).block, (a.add (k * 4)).off + 1, none⟩ = some (.int .i64 blanks) ∧ w'.cell? ⟨(a.add (k * 4)).block, (a.add (k * 4)).off + 2, none⟩ = some (.int .i64 indent) ∧ w'.cell? ⟨(a.add (k * 4)).block, (a.add (k * 4)).off + 3, none⟩ = some (.slice ca cl cc) ∧ w'.cell? (a.add ((k - 1) * 4)) = some (.int .i64 kind') ∧ w'.cell? ⟨(a.add ((k - 1) * 4)).block, (a.add ((k - 1) * 4)).off + 1, none⟩ = some (.int .i64 blanks') ∧ w'.cell? ⟨(a.add ((k - 1) * 4)).block, (a.add ((k - 1) * 4)).off + 2, none⟩ = some (.int .i64 indent') ∧ w'.cell? ⟨(a.add ((k - 1) * 4)).block, (a.add ((k - 1) * 4)).off + 3, none⟩ = some (.slice ca' cl' cc')) 23 (by rfl) (by kernel_rfl) ?_ (fun hHeld => ?_)
                · exact ⟨by simpa using c0, by simpa using c1, by simpa using c2, by simpa using c3, by simpa using d0, by simpa using d1, by simpa using d2, by simpa using d3⟩
                refine held_take 0 (some 13) (v := ?_) rfl rfl (by kernel_rfl) (by kernel_rfl) (by kernel_rfl) (fun _ _ _ _ h => h) (by kernel_rfl) ?_ hHeld ?_
                rotate_left 1
                · intro w hSw; (try dsimp only at hSw); go_simp; (try with_reducible rfl)
                try simp only [List.foldl_cons, List.foldl_nil, List.length_cons, List.length_nil, Act.put, List.setIfInBounds_toArray, List.set_cons_zero, List.set_cons_succ]
                refine held_take 1 (some 14) (v := ?_) rfl rfl (by kernel_rfl) (by kernel_rfl) (by kernel_rfl) (fun _ _ _ _ h => h) (by kernel_rfl) ?_ hHeld ?_
                rotate_left 1
                · intro w hSw; (try dsimp only at hSw); go_simp; (try with_reducible rfl)
                try simp only [List.foldl_cons, List.foldl_nil, List.length_cons, List.length_nil, Act.put, List.setIfInBounds_toArray, List.set_cons_zero, List.set_cons_succ]
                refine held_take 2 (some 15) (v := ?_) rfl rfl (by kernel_rfl) (by kernel_rfl) (by kernel_rfl) (fun _ _ _ _ h => h) (by kernel_rfl) ?_ hHeld ?_
                rotate_left 1
                · intro w hSw; (try dsimp only at hSw); go_simp; (try with_reducible rfl)
                try simp only [List.foldl_cons, List.foldl_nil, List.length_cons, List.length_nil, Act.put, List.setIfInBounds_toArray, List.set_cons_zero, List.set_cons_succ]
                refine held_take 3 (some 16) (v := ?_) rfl rfl (by kernel_rfl) (by kernel_rfl) (by kernel_rfl) (fun _ _ _ _ h => h) (by kernel_rfl) ?_ hHeld ?_
                rotate_left 1
                · intro w hSw; (try dsimp only at hSw); go_simp; (try with_reducible rfl)
                try simp only [List.foldl_cons, List.foldl_nil, List.length_cons, List.length_nil, Act.put, List.setIfInBounds_toArray, List.set_cons_zero, List.set_cons_succ]
                refine wpAnyH_ready (rs := [4]) (by kernel_rfl) (by simp) ?_
                refine AllReadyH.cons rfl (fun K hK => ?_) AllReadyH.nil
                go_simp
                (go_at_call 18; refine (element_any kind blanks indent ca cl cc S _ ?_).mono ?_; (exact HS.out.below (by go_grown)); rintro e w1 ⟨rfl, hb⟩; rw [HB])
                go_wp2_with fail
                have hOld := hHeld
                clear hHeld
                refine hK.out _ _ ?_ (fun hHeld => ?_)
                · exact ⟨cell_later hb c0, cell_later hb c1, cell_later hb c2, cell_later hb c3, cell_later hb d0, cell_later hb d1, cell_later hb d2, cell_later hb d3⟩
                clear hK K hOld
                try simp only [List.foldl_cons, List.foldl_nil, List.length_cons, List.length_nil, Act.put, List.setIfInBounds_toArray, List.set_cons_zero, List.set_cons_succ]
                refine held_take 5 (some 18) (v := ?_) rfl rfl (by kernel_rfl) (by kernel_rfl) (by kernel_rfl) (fun _ _ _ _ h => h) (by kernel_rfl) ?_ hHeld ?_
                rotate_left 1
                · intro w hSw; (try dsimp only at hSw); go_simp; (try with_reducible rfl)
                try simp only [List.foldl_cons, List.foldl_nil, List.length_cons, List.length_nil, Act.put, List.setIfInBounds_toArray, List.set_cons_zero, List.set_cons_succ]
                refine held_take 6 (some 19) (v := ?_) rfl rfl (by kernel_rfl) (by kernel_rfl) (by kernel_rfl) (fun _ _ _ _ h => h) (by kernel_rfl) ?_ hHeld ?_
                rotate_left 1
                · intro w hSw; (try dsimp only at hSw); go_simp; (try with_reducible rfl)
                try simp only [List.foldl_cons, List.foldl_nil, List.length_cons, List.length_nil, Act.put, List.setIfInBounds_toArray, List.set_cons_zero, List.set_cons_succ]
                refine held_take 7 (some 20) (v := ?_) rfl rfl (by kernel_rfl) (by kernel_rfl) (by kernel_rfl) (fun _ _ _ _ h => h) (by kernel_rfl) ?_ hHeld ?_
                rotate_left 1
                · intro w hSw; (try dsimp only at hSw); go_simp; (try with_reducible rfl)
                try simp only [List.foldl_cons, List.foldl_nil, List.length_cons, List.length_nil, Act.put, List.setIfInBounds_toArray, List.set_cons_zero, List.set_cons_succ]
                refine held_take 8 (some 21) (v := ?_) rfl rfl (by kernel_rfl) (by kernel_rfl) (by kernel_rfl) (fun _ _ _ _ h => h) (by kernel_rfl) ?_ hHeld ?_
                rotate_left 1
                · intro w hSw; (try dsimp only at hSw); go_simp; (try with_reducible rfl)
                try simp only [List.foldl_cons, List.foldl_nil, List.length_cons, List.length_nil, Act.put, List.setIfInBounds_toArray, List.set_cons_zero, List.set_cons_succ]
                refine held_take 9 (some 22) (v := ?_) rfl rfl (by kernel_rfl) (by kernel_rfl) (by kernel_rfl) (fun _ _ _ _ h => h) (by kernel_rfl) ?_ hHeld ?_
                rotate_left 1
                · intro w hSw; (try dsimp only at hSw); go_simp; (try with_reducible rfl)
                try simp only [List.foldl_cons, List.foldl_nil, List.length_cons, List.length_nil, Act.put, List.setIfInBounds_toArray, List.set_cons_zero, List.set_cons_succ]
                refine held_take 10 (some 23) (v := ?_) rfl rfl (by kernel_rfl) (by kernel_rfl) (by kernel_rfl) (fun _ _ _ _ h => h) (by kernel_rfl) ?_ hHeld ?_
                rotate_left 1
                · intro w hSw; (try dsimp only at hSw); go_simp; (try with_reducible rfl)
                try simp only [List.foldl_cons, List.foldl_nil, List.length_cons, List.length_nil, Act.put, List.setIfInBounds_toArray, List.set_cons_zero, List.set_cons_succ]
                refine held_take 11 (some 24) (v := ?_) rfl rfl (by kernel_rfl) (by kernel_rfl) (by kernel_rfl) (fun _ _ _ _ h => h) (by kernel_rfl) ?_ hHeld ?_
                rotate_left 1
                · intro w hSw; (try dsimp only at hSw); go_simp; (try with_reducible rfl)
                try simp only [List.foldl_cons, List.foldl_nil, List.length_cons, List.length_nil, Act.put, List.setIfInBounds_toArray, List.set_cons_zero, List.set_cons_succ]
                refine held_take 12 (some 25) (v := ?_) rfl rfl (by kernel_rfl) (by kernel_rfl) (by kernel_rfl) (fun _ _ _ _ h => h) (by kernel_rfl) ?_ hHeld ?_
                rotate_left 1
                · intro w hSw; (try dsimp only at hSw); go_simp; (try with_reducible rfl)
                try simp only [List.foldl_cons, List.foldl_nil, List.length_cons, List.length_nil, Act.put, List.setIfInBounds_toArray, List.set_cons_zero, List.set_cons_succ]
                refine held_take 13 (some 26) (v := ?_) rfl rfl (by kernel_rfl) (by kernel_rfl) (by kernel_rfl) (fun _ _ _ _ h => h) (by kernel_rfl) ?_ hHeld ?_
                rotate_left 1
                · intro w hSw; (try dsimp only at hSw); go_simp; (try with_reducible rfl)
                try simp only [List.foldl_cons, List.foldl_nil, List.length_cons, List.length_nil, Act.put, List.setIfInBounds_toArray, List.set_cons_zero, List.set_cons_succ]
                refine held_take 14 (some 27) (v := ?_) rfl rfl (by kernel_rfl) (by kernel_rfl) (by kernel_rfl) (fun _ _ _ _ h => h) (by kernel_rfl) ?_ hHeld ?_
                rotate_left 1
                · intro w hSw; (try dsimp only at hSw); go_simp; (try with_reducible rfl)
                try simp only [List.foldl_cons, List.foldl_nil, List.length_cons, List.length_nil, Act.put, List.setIfInBounds_toArray, List.set_cons_zero, List.set_cons_succ]
                refine held_take 15 (some 28) (v := ?_) rfl rfl (by kernel_rfl) (by kernel_rfl) (by kernel_rfl) (fun _ _ _ _ h => h) (by kernel_rfl) ?_ hHeld ?_
                rotate_left 1
                · intro w hSw; (try dsimp only at hSw); go_simp; (try with_reducible rfl)
                try simp only [List.foldl_cons, List.foldl_nil, List.length_cons, List.length_nil, Act.put, List.setIfInBounds_toArray, List.set_cons_zero, List.set_cons_succ]
                refine held_take 16 (some 29) (v := ?_) rfl rfl (by kernel_rfl) (by kernel_rfl) (by kernel_rfl) (fun _ _ _ _ h => h) (by kernel_rfl) ?_ hHeld ?_
                rotate_left 1
                · intro w hSw; (try dsimp only at hSw); go_simp; (try with_reducible rfl)
                try simp only [List.foldl_cons, List.foldl_nil, List.length_cons, List.length_nil, Act.put, List.setIfInBounds_toArray, List.set_cons_zero, List.set_cons_succ]
                refine held_take 17 (some 30) (v := ?_) rfl rfl (by kernel_rfl) (by kernel_rfl) (by kernel_rfl) (fun _ _ _ _ h => h) (by kernel_rfl) ?_ hHeld ?_
                rotate_left 1
                · intro w hSw; (try dsimp only at hSw); go_simp; (try with_reducible rfl)
                try simp only [List.foldl_cons, List.foldl_nil, List.length_cons, List.length_nil, Act.put, List.setIfInBounds_toArray, List.set_cons_zero, List.set_cons_succ]
                refine held_take 18 (some 31) (v := ?_) rfl rfl (by kernel_rfl) (by kernel_rfl) (by kernel_rfl) (fun _ _ _ _ h => h) (by kernel_rfl) ?_ hHeld ?_
                rotate_left 1
                · intro w hSw; (try dsimp only at hSw); go_simp; (try with_reducible rfl)
                try simp only [List.foldl_cons, List.foldl_nil, List.length_cons, List.length_nil, Act.put, List.setIfInBounds_toArray, List.set_cons_zero, List.set_cons_succ]
                refine wpAnyH_ready (rs := [19]) (by kernel_rfl) (by simp) ?_
                refine AllReadyH.cons rfl (fun K hK => ?_) AllReadyH.nil
                go_simp
                (go_at_call 19; refine (follows_any _ _ _ _ _ _ _ _ _).mono ?_; rintro e w2 ⟨rfl, hb'⟩; rw [HF])
                go_wp2_with fail
                have hOld := hHeld
                clear hHeld
                refine hK.out _ _ ?_ (fun hHeld => ?_)
                · exact ⟨cell_later hb' hOld.1, cell_later hb' hOld.2.1, cell_later hb' hOld.2.2.1, cell_later hb' hOld.2.2.2.1, cell_later hb' hOld.2.2.2.2.1, cell_later hb' hOld.2.2.2.2.2.1, cell_later hb' hOld.2.2.2.2.2.2.1, cell_later hb' hOld.2.2.2.2.2.2.2⟩
                clear hK K hOld
                try simp only [List.foldl_cons, List.foldl_nil, List.length_cons, List.length_nil, Act.put, List.setIfInBounds_toArray, List.set_cons_zero, List.set_cons_succ]
                refine held_take 20 (some 33) (v := ?_) rfl rfl (by kernel_rfl) (by kernel_rfl) (by kernel_rfl) (fun _ _ _ _ h => h) (by kernel_rfl) ?_ hHeld ?_
                rotate_left 1
                · intro w hSw; (try dsimp only at hSw); go_simp; (try with_reducible rfl)
                try simp only [List.foldl_cons, List.foldl_nil, List.length_cons, List.length_nil, Act.put, List.setIfInBounds_toArray, List.set_cons_zero, List.set_cons_succ]
                refine held_take 21 (some 34) (v := ?_) rfl rfl (by kernel_rfl) (by kernel_rfl) (by kernel_rfl) (fun _ _ _ _ h => h) (by kernel_rfl) ?_ hHeld ?_
                rotate_left 1
                · intro w hSw; (try dsimp only at hSw); go_simp; (try with_reducible rfl)
                try simp only [List.foldl_cons, List.foldl_nil, List.length_cons, List.length_nil, Act.put, List.setIfInBounds_toArray, List.set_cons_zero, List.set_cons_succ]
                refine held_take 22 (some 35) (v := ?_) rfl rfl (by kernel_rfl) (by kernel_rfl) (by kernel_rfl) (fun _ _ _ _ h => h) (by kernel_rfl) ?_ hHeld ?_
                rotate_left 1
                · intro w hSw; (try dsimp only at hSw); go_simp; (try with_reducible rfl)
                try simp only [List.foldl_cons, List.foldl_nil, List.length_cons, List.length_nil, Act.put, List.setIfInBounds_toArray, List.set_cons_zero, List.set_cons_succ]
                refine wpAnyH_done (by kernel_rfl) ?_ _
                go_wp2
                go_roundw
                case rel => exact ⟨k + 1, by omega, by go_num, below_step (Nat.le_refl _) (below_step (Nat.le_refl _) (by go_grown) hb) hb', HO'⟩
                case measure => simp [intOf]; omega
        · go_wp2
          go_ret
          exact ⟨⟨true, rfl, fun _ => ⟨by omega, fun i hi => HO.out i (by omega)⟩⟩, by go_grown⟩
end Go.Proofs.Ythdlekfnmabldaa
