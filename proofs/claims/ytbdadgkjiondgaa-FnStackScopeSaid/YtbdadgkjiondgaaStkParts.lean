/-
  FnStackScope: frames in memory; bindings, environments.
-/
import Derived.Test.YtbdadgkjiondgaaTurn
import Derived.Test.YtbdadgkjiondgaaStkLaw
import Derived.Test.YtbdadgkjiondgaaStrs
import Derived.Deep.RegionLaw
namespace Go.Proofs.Ytbdadgkjiondgaa.fnStackScope
open Go.RowKit Go.Maps Go.WideMaps
set_option linter.unusedSimpArgs false
set_option linter.unusedVariables false

/-- A thunk that holds a number. -/
def ThunkAt (w : World) (p val : Nat) : Prop :=
  ∃ (q : Nat) (C C' : Array Value), w.heap[p]? = some (.cells C 86 (0, 0)) ∧ C[2]? = some (.iface 77 (.pointer (some ⟨q, 0, none⟩))) ∧ w.heap[q]? = some (.cells C' 76 (0, 0)) ∧ C'[0]? = some (.float .f64 (floatOfInt .f64 val))

/-- Blocks of cells stand, those of frames, thunks and numbers. -/
def Keep (w w' : World) : Prop := ∀ (b : Nat) (C : Array Value) (t : TypeId), t = 86 ∨ t = 76 ∨ t = 90 → w.heap[b]? = some (.cells C t (0, 0)) → w'.heap[b]? = some (.cells C t (0, 0))

theorem ThunkAt.keep {w w' : World} {p val : Nat} (h : ThunkAt w p val) (k : Keep w w') : ThunkAt w' p val := by
  obtain ⟨q, C, C', h1, h2, h3, h4⟩ := h
  exact ⟨q, C, C', k _ _ _ (.inl rfl) h1, h2, k _ _ _ (.inr (.inl rfl)) h3, h4⟩

theorem Keep.of_turned {bad : TypeId → Bool} {B : Nat} {w w' : World} (h : Turned bad B w w') (h1 : bad 86 = false) (h2 : bad 76 = false) (h3 : bad 90 = false) : Keep w w' := by
  intro b C t ht hb
  refine h.still b _ hb ?_
  rcases ht with rfl | rfl | rfl
  · simp [stays, h1]
  · simp [stays, h2]
  · simp [stays, h3]

theorem Keep.of_below {w w' : World} (h : Below w.heap.size w w') : Keep w w' := fun b C t _ hb => (h.block b (lt_of_block hb)).trans hb

theorem Keep.trans {a b c : World} (h : Keep a b) (k : Keep b c) : Keep a c := fun p C t ht hb => k p C t ht (h p C t ht hb)

theorem Keep.of_map {w w' : World} {g : Nat} (h : w.grownBy w' (some g)) {es : Array MapEntry} {clock : Nat} (hg : w.heap[g]? = some (.map es clock)) : Keep w w' := by
  intro b C t _ hb
  refine block_grown hb h (fun e => ?_)
  have e2 : b = g := Option.some.inj e
  subst e2
  rw [hg] at hb
  cases hb

open Classical in
/-- How a thunk reads. -/
noncomputable def tv (w : World) (val : Nat) (v : Value) : Option (DataW Unit × List MemPlace) :=
  if v = .pointer none then some (.lit (.bool false), []) else if ∃ p, v = .pointer (some ⟨p, 0, none⟩) ∧ ThunkAt w p val then some (.lit (.bool true), []) else none

theorem tv_nil (w : World) (val : Nat) : tv w val (.pointer none) = some (.lit (.bool false), []) := by simp [tv]

theorem tv_mk {w : World} {val p : Nat} (h : ThunkAt w p val) : tv w val (.pointer (some ⟨p, 0, none⟩)) = some (.lit (.bool true), []) := by
  unfold tv
  rw [if_neg (by simp), if_pos ⟨p, rfl, h⟩]

theorem tv_keep {w w' : World} (k : Keep w w') (val : Nat) (v : Value) (z : DataW Unit × List MemPlace) (h : tv w val v = some z) : tv w' val v = some z := by
  unfold tv at h ⊢
  split at h
  · rename_i h1; rw [if_pos h1]; exact h
  · rename_i h1
    rw [if_neg h1]
    split at h
    · rename_i h2
      obtain ⟨p, h3, h4⟩ := h2
      rw [if_pos ⟨p, h3, h4.keep k⟩]
      exact h
    · cases h

theorem tv_true {w : World} {val : Nat} {v : Value} {ps : List MemPlace} (h : tv w val v = some (.lit (.bool true), ps)) : ∃ p, v = .pointer (some ⟨p, 0, none⟩) ∧ ThunkAt w p val := by
  unfold tv at h
  split at h
  · simp at h
  · split at h
    · rename_i h2; exact h2
    · cases h

theorem tv_false {w : World} {val : Nat} {v : Value} {ps : List MemPlace} (h : tv w val v = some (.lit (.bool false), ps)) : v = .pointer none := by
  unfold tv at h
  split at h
  · rename_i h1; exact h1
  · split at h
    · simp at h
    · cases h

/-- A set of names. -/
def setD (acc : List ByteArray) : DataW Unit := setOf (.lit (.bool true)) (acc.map fun s => Lit.string s.data.toList)

theorem has_set (acc : List ByteArray) (s : ByteArray) : Maps.has (setD acc) (.string s.data.toList) = decide (s ∈ acc) := by
  unfold setD
  rw [has_setOf _ _ _ (fun y hy => by obtain ⟨_, _, rfl⟩ := List.mem_map.1 hy; trivial), List.any_map]
  rw [Bool.eq_iff_iff, List.any_eq_true, decide_eq_true_iff]
  constructor
  · rintro ⟨x, hx, he⟩
    have : x = s := by
      simp [Lit.sameKey] at he
      exact ByteArray.ext he
    exact this ▸ hx
  · intro h
    exact ⟨s, h, by simp [Lit.sameKey]⟩

/-- The first k names. -/
def names (S : Nat → ByteArray) (k : Nat) : List ByteArray := (List.range k).map S

theorem names_succ (S : Nat → ByteArray) (k : Nat) : names S (k + 1) = names S k ++ [S k] := by
  unfold names
  rw [List.range_succ, List.map_append]
  rfl

theorem setD_snoc (acc : List ByteArray) (s : ByteArray) : setD (acc ++ [s]) = (setD acc).put (.string s.data.toList) (.lit (.bool true)) := by
  unfold setD
  rw [List.map_append, List.map_singleton, setOf_snoc]

theorem at_set (S : Nat → ByteArray) (s : ByteArray) (z : DataW Unit) : ∀ k, (setD (names S k)).atKey (.string s.data.toList) z = if s ∈ names S k then .lit (.bool true) else z
  | 0 => by simp [names, setD, setOf, DataW.atKey]
  | k + 1 => by
    rw [names_succ, setD_snoc]
    have hm : IsMap (setD (names S k)) := (tidy_setOf _ _ (fun y hy => by obtain ⟨_, _, rfl⟩ := List.mem_map.1 hy; trivial)).isMap
    by_cases h : s = S k
    · subst h
      rw [atKey_put_same (k := .string (S k).data.toList) hm trivial]
      simp
    · rw [atKey_put_other (fun e => h (ByteArray.ext (by simpa using e))), at_set S s z k]
      simp [h]

theorem law : Keyed Try.prog 71 := string_keyed Try.underlying71

@[go_sem] theorem make_map (w : World) : (Instr.makeMap 58 none).run Try.prog w = .ok (.map (some w.heap.size)) (w.alloc (.map #[] 0)) := by kernel_rfl

theorem zeroT (w : World) : (zeroValue 69).run Try.prog w = .ok (.pointer none) w := by kernel_rfl

/-- Bindings of names to a number. -/
def MapIn (w : World) (b n : Nat) (L : List ByteArray) (val : Nat) : Prop :=
  w.ownsMap Try.prog 71 (tv w val) b n (setD L)

theorem MapIn.block {w : World} {b n : Nat} {L : List ByteArray} {val : Nat} (h : MapIn w b n L val) : ∃ es clock, w.heap[b]? = some (.map es clock) := by
  obtain ⟨es, clock, hb, -⟩ := h
  exact ⟨es, clock, hb⟩

theorem MapIn.keep {w w' : World} {b n : Nat} {L : List ByteArray} {val : Nat} (h : MapIn w b n L val) (k : Keep w w') (hm : ∀ es clock, w.heap[b]? = some (.map es clock) → w'.heap[b]? = some (.map es clock)) : MapIn w' b n L val := by
  have h2 : w.ownsMap Try.prog 71 (tv w' val) b n (setD L) := ownsMap_stay h (tv_keep k val)
  obtain ⟨es, clock, hb, r⟩ := h2
  exact ⟨es, clock, hm _ _ hb, r⟩

theorem MapIn.below {w w' : World} {b n : Nat} {L : List ByteArray} {val : Nat} (h : MapIn w b n L val) (hb : Below w.heap.size w w') : MapIn w' b n L val :=
  h.keep (Keep.of_below hb) (fun es clock h => (hb.block b (lt_of_block h)).trans h)

theorem MapIn.turned {bad : TypeId → Bool} {B : Nat} {w w' : World} {b n : Nat} {L : List ByteArray} {val : Nat} (h : MapIn w b n L val) (hk : Keep w w') (ht : Turned bad B w w') : MapIn w' b n L val :=
  h.keep hk (fun es clock h => ht.still b _ h rfl)

theorem num_any (x : Nat) (w : World) : Calls Try.prog 27 #[.float .f64 x] w
    fun e w' => e = .returned (.pointer (some ⟨w.heap.size, 0, none⟩)) ∧ w.alloc (.cells #[.float .f64 x] 76) = w' := by
  go_enter Try.func27, Try.ntmps27
  go_wp2
  go_ret
  exact ⟨rfl, rfl⟩

theorem toValue_any (i : Int) (w : World) : Calls Try.prog 25 #[.int .i64 i] w
    fun e w' => e = .returned (.pointer (some ⟨w.heap.size, 0, none⟩)) ∧ w.alloc (.cells #[.float .f64 (floatOfInt FloatKind.f64 i)] 76) = w' := by
  go_enter Try.func25, Try.ntmps25
  go_wp2_with (go_in)
  go_ret
  exact ⟨rfl, rfl⟩

theorem ready_any (t : TypeId) (v : Value) (w : World) : Calls Try.prog 24 #[.iface t v] w
    fun e w' => e = .returned (.pointer (some ⟨w.heap.size, 0, none⟩)) ∧ w.alloc (.cells #[.pointer none, .nilIface, .iface t v, .nilIface] 86) = w' := by
  go_enter Try.func24, Try.ntmps24
  go_wp2
  go_ret
  exact ⟨rfl, rfl⟩

theorem thunk_new (w : World) (val : Nat) : ThunkAt ((w.alloc (.cells #[.float .f64 (floatOfInt FloatKind.f64 (val : Int))] 76)).alloc (.cells #[.pointer none, .nilIface, .iface 77 (.pointer (some ⟨w.heap.size, 0, none⟩)), .nilIface] 86)) (w.heap.size + 1) val :=
  ⟨w.heap.size, _, _, block_new' (by simp) _, rfl, block_alloc (block_new _ _) _, rfl⟩

set_option maxRecDepth 100000 in
/-- The bindings of a step. -/
theorem bound_any (kind : Int) (c : Option Addr) (n cap : Nat) (S : Nat → ByteArray) (nm : ByteArray) (val : Nat) (tr : Bool) (w : World) (hS : StrsIn w c n cap S) (hn : (n : Int) ≤ 2147483647) (hl : ∀ i, i < n → ((S i).size : Int) ≤ 2147483647) :
    Calls Try.prog 18 #[.agg #[.int .i64 kind, .slice c n cap, .string nm, .int .i64 val, .bool tr]] w
      fun e w' => ∃ b, e = .returned (.map (some b)) ∧ MapIn w' b n (names S n) val ∧ Below w.heap.size w w' := by
  have HS := Lib.hid hS
  have HL := Lib.hid hl
  clear hS hl
  go_enter Try.func18, Try.ntmps18
  go_wp2_with fail
  go_loopw [10] (fun i wr => ∃ k : Nat, k ≤ n ∧ i = .int .i64 k ∧ MapIn wr (w.heap.size + 1) k (names S k) val ∧ Below (w.heap.size + 1) (w.alloc (.cells #[.int .i64 kind, .slice c n cap, .string nm, .int .i64 val, .bool tr] 36)) wr) (fun i _ => n - (intOf i).toNat)
  case atStart =>
    refine ⟨0, Nat.zero_le _, rfl, ?_, by go_grown⟩
    have := World.ownsMap_made (w.alloc (.cells #[.int .i64 kind, .slice c n cap, .string nm, .int .i64 val, .bool tr] 36)) Try.prog 71 (tv ((w.alloc (.cells #[.int .i64 kind, .slice c n cap, .string nm, .int .i64 val, .bool tr] 36)).alloc (.map #[] 0)) val)
    rw [show (w.alloc (.cells #[.int .i64 kind, .slice c n cap, .string nm, .int .i64 val, .bool tr] 36)).heap.size = w.heap.size + 1 by simp] at this
    exact this
  case round =>
    obtain ⟨k, hk, rfl, hmap, hbel⟩ := hrel
    have hsz : w.heap.size + 1 ≤ wr.heap.size := by have := hbel.size; simpa using this
    have hbw : Below w.heap.size w wr := (Below.alloc (Below.refl _ _) (Nat.le_refl _) _).trans (hbel.mono (by omega))
    have hv : wr.cell? ⟨w.heap.size, 3, none⟩ = some (.int .i64 val) := (hbel.cell (Nat.lt_succ_self _)).trans (by simp)
    have HM := Lib.hid hmap
    clear hmap
    by_cases hlt : k < n
    · obtain ⟨a, rfl, hc⟩ : ∃ a, c = some a ∧ w.cell? (a.add k) = some (.string (S k)) := by
        rcases HS.out with ⟨-, h0, -⟩ | ⟨a, rfl, h1, h2, h3⟩
        · omega
        · exact ⟨a, rfl, (h3 k hlt).2⟩
      have hc2 := cell_later hbw hc
      have hkey : keyOf Try.prog 71 (.string (S k)) = some (.string (S k).data.toList) := keyOf_string_mk Try.underlying71 (by have := HL.out k hlt; unfold maxLen; omega)
      have hns := Lib.hid (names_succ S k)
      have hT := Lib.hid (thunk_new wr val)
      clear hc
      have hwn : Below wr.heap.size wr ((wr.alloc (.cells #[.float .f64 (floatOfInt FloatKind.f64 (val : Int))] 76)).alloc (.cells #[.pointer none, .nilIface, .iface 77 (.pointer (some ⟨wr.heap.size, 0, none⟩)), .nilIface] 86)) := by go_grown
      have HM2 := Lib.hid (HM.out.below hwn)
      go_wp2_with (first | (go_at_call 25; refine (toValue_any _ _).mono ?_; rintro e w' ⟨rfl, rfl⟩) | (go_at_call 24; refine (ready_any _ _ _).mono ?_; rintro e w' ⟨rfl, rfl⟩) | (at_mapUpdate; refine wpList_mapUpdate_own _ rfl _ _ _ 58 rfl 71 69 law Try.underlying58 _ (w.heap.size + 1) k _ rfl HM2.out (by unfold maxLen; omega) _ _ _ rfl rfl hkey _ [] (tv_mk hT.out) ?_; intro w1 hown1 hg1))
      go_roundw
      case rel =>
        refine ⟨k + 1, by omega, by go_num, ?_, ?_⟩
        · obtain ⟨es, clock, hb⟩ := HM2.out.block
          rw [hns.out]
          unfold MapIn
          rw [setD_snoc]
          exact ownsMap_stay hown1 (tv_keep (Keep.of_map hg1 hb) val)
        · exact Below.grown (hbel.trans (hwn.mono hsz)) hg1 (by simp; omega) (fun b hb => by cases hb; omega)
      case measure => first | (simp [intOf]; done) | (simp [intOf]; omega)
    · obtain rfl : k = n := by omega
      go_wp2
      go_ret
      exact ⟨_, rfl, HM.out, hbw⟩
end Go.Proofs.Ytbdadgkjiondgaa.fnStackScope
