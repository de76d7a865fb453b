/-
  FnStackScope: rows of steps; the thin package's Stack.
-/
import Derived.Test.YtbdadgkjiondgaaStkPart
import Derived.Laws.OwnMore
namespace Go.Proofs.Ytbdadgkjiondgaa.fnStackScope
open Go.RowKit Go.Maps Go.WideMaps
set_option linter.unusedSimpArgs false
set_option linter.unusedVariables false

def seCells (e : SE) : List Value := [.int .i64 e.kind, .slice e.ca e.cl e.cc, .string e.name, .int .i64 e.val, .bool e.trim]

/-- The cells of the first k steps. -/
def ses (E : Nat → SE) (k : Nat) : List Value := (List.range k).flatMap fun j => seCells (E j)

theorem ses_succ (E : Nat → SE) (k : Nat) : ses E (k + 1) = ses E k ++ seCells (E k) := by
  unfold ses
  rw [List.range_succ, List.flatMap_append]
  simp

theorem ses_length (E : Nat → SE) (k : Nat) : (ses E k).length = k * 5 := by
  induction k with
  | zero => rfl
  | succ k ih => rw [ses_succ, List.length_append, ih]; simp [seCells]; omega

theorem ses_get (E : Nat → SE) {k : Nat} (j q : Nat) (hj : j < k) (hq : q < 5) : (ses E k)[j * 5 + q]? = (seCells (E j))[q]? := by
  induction k with
  | zero => omega
  | succ k ih =>
    have hl := ses_length E k
    rw [ses_succ]
    by_cases h : j < k
    · rw [List.getElem?_append_left (by omega)]
      exact ih h
    · obtain rfl : j = k := by omega
      rw [List.getElem?_append_right (by omega), hl]
      congr 1
      omega

theorem ses_congr {E F : Nat → SE} {k : Nat} (h : ∀ j, j < k → E j = F j) : ses E k = ses F k := by
  induction k with
  | zero => rfl
  | succ k ih => rw [ses_succ, ses_succ, ih (fun j hj => h j (by omega)), h k (by omega)]

/-- Steps behind others. -/
def glue (E : Nat → SE) (k : Nat) (F : Nat → SE) : Nat → SE := fun i => if i < k then E i else F (i - k)

theorem ses_glue (E : Nat → SE) (k : Nat) (F : Nat → SE) (n : Nat) : ses E k ++ ses F n = ses (glue E k F) (k + n) := by
  induction n with
  | zero =>
    show ses E k ++ [] = ses (glue E k F) k
    rw [List.append_nil]
    exact ses_congr (fun j hj => by simp [glue, hj])
  | succ n ih =>
    rw [ses_succ, ← List.append_assoc, ih, ← Nat.add_assoc, ses_succ]
    congr 2
    simp only [glue]
    rw [if_neg (by omega), Nat.add_sub_cancel_left]

theorem add_at (g i q : Nat) (hq : 0 < q) : (⟨((⟨g, 0, none⟩ : Addr).add i).block, ((⟨g, 0, none⟩ : Addr).add i).off + q, none⟩ : Addr) = ⟨g, i + q, none⟩ := by
  unfold Addr.add
  split
  · rename_i h; subst h; simp
  · simp

theorem add_at0 (g i : Nat) : (⟨g, 0, none⟩ : Addr).add i = ⟨g, i, none⟩ := by
  unfold Addr.add
  split
  · rename_i h; subst h; rfl
  · simp

/-- A row of steps, as a list. -/
theorem row_in {w : World} {B n : Nat} {e : TypeId} {v : Value} {E : Nat → SE} (h : w.ownsRow B e 5 v n (ses E n)) (hs : ∀ j, j < n → StrsIn w (E j).ca (E j).cl (E j).cc (E j).S) : ∃ c cap, v = .slice c n cap ∧ SesIn w c n cap E := by
  rcases own_form h with ⟨rfl, rfl⟩ | ⟨g, cap, rfl, h1, h2, h3, h4⟩
  · exact ⟨_, _, rfl, .inl ⟨rfl, rfl, rfl⟩⟩
  · refine ⟨_, _, rfl, .inr ⟨_, rfl, h3, h4, fun j hj => ?_⟩⟩
    have hc : ∀ q, q < 5 → w.cell? ⟨g, j * 5 + q, none⟩ = (seCells (E j))[q]? := fun q hq => (World.ownsRow.cellAt h (j * 5 + q) (by omega)).trans (ses_get E j q hj hq)
    refine ⟨?_, ?_, ?_, ?_, ?_, hs j hj⟩
    · rw [add_at0]; exact hc 0 (by omega)
    · rw [add_at _ _ _ (by omega)]; exact hc 1 (by omega)
    · rw [add_at _ _ _ (by omega)]; exact hc 2 (by omega)
    · rw [add_at _ _ _ (by omega)]; exact hc 3 (by omega)
    · rw [add_at _ _ _ (by omega)]; exact hc 4 (by omega)

/-- The cells of steps that lie in memory. -/
theorem ses_cells {w : World} {a : Addr} {len : Nat} {E : Nat → SE} (h : ∀ i, i < len → SeIn w (a.add (i * 5)) (E i)) : ∀ n u, (ses E len)[n]? = some u → w.cell? (a.add n) = some u := by
  intro n u hn
  have hlen' := ses_length E len
  have hn1 : n < len * 5 := by
    rcases Nat.lt_or_ge n (len * 5) with h | h
    · exact h
    · rw [List.getElem?_eq_none (by omega)] at hn; cases hn
  have e : n = n / 5 * 5 + n % 5 := by omega
  have hg := ses_get E (k := len) (n / 5) (n % 5) (by omega) (by omega)
  rw [← e, hn] at hg
  obtain ⟨c0, c1, c2, c3, c4, -⟩ := h (n / 5) (by omega)
  have e3 : n % 5 = 0 ∨ n % 5 = 1 ∨ n % 5 = 2 ∨ n % 5 = 3 ∨ n % 5 = 4 := by omega
  have ha : ∀ q, 0 < q → a.add (n / 5 * 5 + q) = ⟨(a.add (n / 5 * 5)).block, (a.add (n / 5 * 5)).off + q, none⟩ := fun q hq => by
    rw [← Go.Deep.add_add]
    show (if q = 0 then _ else _) = _
    rw [if_neg (by omega)]
  rw [e]
  rcases e3 with e3 | e3 | e3 | e3 | e3
  · rw [e3] at hg ⊢
    simp [seCells] at hg
    subst hg
    rw [Nat.add_zero]
    exact c0
  · rw [e3] at hg ⊢
    simp [seCells] at hg
    subst hg
    rw [ha 1 (by omega)]
    exact c1
  · rw [e3] at hg ⊢
    simp [seCells] at hg
    subst hg
    rw [ha 2 (by omega)]
    exact c2
  · rw [e3] at hg ⊢
    simp [seCells] at hg
    subst hg
    rw [ha 3 (by omega)]
    exact c3
  · rw [e3] at hg ⊢
    simp [seCells] at hg
    subst hg
    rw [ha 4 (by omega)]
    exact c4

theorem ses_one (E : Nat → SE) (k : Nat) : ∀ u ∈ ses E k, u.oneCell' = true := by
  intro u hu
  unfold ses at hu
  obtain ⟨j, -, hj⟩ := List.mem_flatMap.1 hu
  simp [seCells] at hj
  rcases hj with rfl | rfl | rfl | rfl | rfl <;> rfl

theorem infoStep : (Try.prog.info? 27).map (fun i => (i.zero, i.size, i.bytes)) = some (some (.agg #[.int .i64 0, .slice none 0 0, .string ⟨#[]⟩, .int .i64 0, .bool false]), 5, 64) := by kernel_rfl
theorem infoJStep : (Try.prog.info? 36).map (fun i => (i.zero, i.size, i.bytes)) = some (some (.agg #[.int .i64 0, .slice none 0 0, .string ⟨#[]⟩, .int .i64 0, .bool false]), 5, 64) := by kernel_rfl

/-- A list of steps is put behind a row of steps. -/
theorem app_ses {w : World} {B k : Nat} {v : Value} {E F : Nat → SE} {c : Option Addr} {n cap : Nat} (h : w.ownsRow B 27 5 v k (ses E k)) (hs : SesIn w c n cap F) (hB : B ≤ w.heap.size) (hk : k + n ≤ 1000) :
    ∃ v' w', (Builtin.append_ #[22, 22] 22 #[v, .slice c n cap]).run Try.prog w = .ok v' w' ∧ (w'.ownsRow B 27 5 v' (k + n) (ses (glue E k F) (k + n)) ∧ w.grownBy w' v.ownBlock) := by
  obtain ⟨i0, hi, hz0, hz1, hz2⟩ := info_parts infoStep
  rcases hs with ⟨rfl, rfl, rfl⟩ | ⟨a, rfl, h1, h2, h3⟩
  · have hrun := run_append_owned_none (P := Try.prog) (w := w) B 22 22 27 i0 5 Try.underlying22 hi v k _ h
    refine ⟨_, _, hrun, ?_, World.grownBy.refl _ _⟩
    rw [← ses_glue]
    show w.ownsRow B _ 5 v k (ses E k ++ [])
    rw [List.append_nil]
    exact h
  · obtain ⟨v', w', hr, h4, h5, -⟩ := run_append_own (P := Try.prog) w B 22 22 27 i0 _ 5 64 Try.underlying22 hi hz0 hz1 hz2 rfl (by decide) v k _ h a n cap (ses F n) (ses_length _ _)
      (ses_cells h3) (ses_one _ _) (by unfold maxLen; omega) (by omega) hB
    rw [ses_glue] at h4
    exact ⟨v', w', hr, h4, h5⟩

/-- A step of the package. -/
def jn (E : Nat → SE) (i : Nat) : SE := { E i with val := if (E i).kind = 3 then (E i).val else (i : Int) }

theorem stOf_jn (E : Nat → SE) : (fun i => stOf (jn E i)) = fun i => stOf (E i) := by
  funext i
  unfold stOf jn
  by_cases h : (E i).kind = 3 <;> simp [h]

set_option maxRecDepth 100000 in
set_option maxHeartbeats 1600000 in
theorem implStack_any (c : Option Addr) (len cap : Nat) (E : Nat → SE) (w : World) (h : SesIn w c len cap E) (hlen : len ≤ 200) (hok : ∀ i, i < len → SeOk (E i)) (hk : ∀ i, i < len → 1 ≤ (E i).kind ∧ (E i).kind ≤ 5) (hv : ∀ i, i < len → (E i).kind = 3 → 1 ≤ (E i).val) :
    Calls Try.prog 8 #[.slice c len cap] w
    fun e w' => ∃ v1 v2 v3, e = .returned (.tuple #[v1, v2, v3, .bool true]) ∧ w'.ownsRow w.heap.size 3 1 v1 len (founds (fun i => stOf (E i)) len) ∧ Below w.heap.size w w' := by
  have HS := Lib.hid h
  have HO := Lib.hid hok
  have HK := Lib.hid hk
  have HV := Lib.hid hv
  clear h hok hk hv
  go_enter Try.func8, Try.ntmps8
  go_wp2_with fail
  go_loopw [6, 12] (fun r i wr => ∃ k : Nat, k ≤ len ∧ i = .int .i64 k ∧ wr.ownsRow w.heap.size 36 5 r k (ses (jn E) k) ∧ Below w.heap.size w wr) (fun _ i _ => len - (intOf i).toNat)
  case atStart => exact ⟨0, Nat.zero_le _, rfl, World.ownsRow_nil _ _ _ _, by go_grown⟩
  case round =>
    obtain ⟨k, hk, rfl, hrow, hbel⟩ := hrel
    have hsz := hbel.size
    have HR := Lib.hid hrow
    clear hrow
    by_cases hlt : k < len
    · obtain ⟨a, rfl, hc⟩ : ∃ a, c = some a ∧ SeIn w (a.add (k * 5)) (E k) := by
        rcases HS.out with ⟨-, h0, -⟩ | ⟨a, rfl, h1, h2, h3⟩
        · omega
        · exact ⟨a, rfl, h3 k hlt⟩
      obtain ⟨q0, q1, q2, q3, q4, -⟩ := hc.below hbel
      have hf := Lib.hid (ses_succ (jn E) k)
      obtain ⟨k1, k5⟩ := HK.out k hlt
      have hvk := HV.out k hlt
      clear hc
      by_cases h3 : (E k).kind = 3
      · have hv1 := hvk h3
        have hj : seCells (jn E k) = [.int .i64 3, .slice (E k).ca (E k).cl (E k).cc, .string (E k).name, .int .i64 (E k).val, .bool (E k).trim] := by simp [seCells, jn, h3]
        rw [hj] at hf
        rw [h3] at q0
        clear k1 k5 hvk hj
        go_wp2_with (at_builtin; refine wpList_append_run rfl (.tmp 51) (.tmp 53) 34 rfl (appS (wr := wr) (B := w.heap.size) (size := 5) 34 34 36 Try.underlying34 infoJStep rfl (by decide) HR.out hsz (grown_of_below (by go_grown)) (by omega) (by omega) [.int .i64 3, .slice (E k).ca (E k).cl (E k).cc, .string (E k).name, .int .i64 (E k).val, .bool (E k).trim] rfl (fun u hu => by simp at hu; rcases hu with rfl | rfl | rfl | rfl | rfl <;> rfl) _ _ (cells_new (by simp))) ?_; rintro v1 w2 ⟨hown, hg, hb⟩)
        go_roundw
        case rel => exact ⟨k + 1, by omega, by go_num, by rw [hf.out]; exact hown, Below.grown (below_step (Nat.le_refl _) hbel (by go_grown)) hg (by simp; omega) (fun b h => (hb b h).1)⟩
        case measure => first | (simp [intOf]; done) | (simp [intOf]; omega)
      · have hj : seCells (jn E k) = [.int .i64 (E k).kind, .slice (E k).ca (E k).cl (E k).cc, .string (E k).name, .int .i64 k, .bool (E k).trim] := by simp [seCells, jn, h3]
        rw [hj] at hf
        clear hvk hj
        generalize (E k).kind = kd at *
        go_wp2_with (at_builtin; refine wpList_append_run rfl (.tmp 51) (.tmp 53) 34 rfl (appS (wr := wr) (B := w.heap.size) (size := 5) 34 34 36 Try.underlying34 infoJStep rfl (by decide) HR.out hsz (grown_of_below (by go_grown)) (by omega) (by omega) [.int .i64 kd, .slice (E k).ca (E k).cl (E k).cc, .string (E k).name, .int .i64 (k : Int), .bool (E k).trim] rfl (fun u hu => by simp at hu; rcases hu with rfl | rfl | rfl | rfl | rfl <;> rfl) _ _ (cells_new (by simp))) ?_; rintro v1 w2 ⟨hown, hg, hb⟩)
        go_roundw
        case rel => exact ⟨k + 1, by omega, by go_num, by rw [hf.out]; exact hown, Below.grown (below_step (Nat.le_refl _) hbel (by go_grown)) hg (by simp; omega) (fun b h => (hb b h).1)⟩
        case measure => first | (simp [intOf]; done) | (simp [intOf]; omega)
    · obtain rfl : k = len := by omega
      obtain ⟨cc, cp, rfl, hin⟩ := row_in HR.out (fun j hj => by
        rcases HS.out with ⟨-, h0, -⟩ | ⟨a, rfl, h1, h2, h3⟩
        · omega
        · exact (h3 j hj).2.2.2.2.2.below hbel)
      have HI := Lib.hid hin
      clear hin HR
      go_wp2_with (go_at_call 11; refine (part_any cc k cp (jn E) _ HI.out hlen (fun i hi => HO.out i hi) (fun i hi => HK.out i hi) (fun i hi => by
        show if (E i).kind = 3 then 1 ≤ (jn E i).val else (jn E i).val = (i : Int)
        by_cases h : (E i).kind = 3
        · rw [if_pos h]; show 1 ≤ (if (E i).kind = 3 then (E i).val else (i : Int)); rw [if_pos h]; exact HV.out i hi h
        · rw [if_neg h]; show (if (E i).kind = 3 then (E i).val else (i : Int)) = i; rw [if_neg h])).mono ?_; rintro e w2 ⟨v1, v2, v3, rfl, hown, hb⟩; have HN := Lib.hid hown; clear hown)
      go_returns
      refine ⟨_, _, _, rfl, ?_, below_step (Nat.le_refl _) hbel hb⟩
      have := HN.out
      rw [stOf_jn] at this
      exact owns_mono this hsz
end Go.Proofs.Ytbdadgkjiondgaa.fnStackScope
