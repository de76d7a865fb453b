/-
  FnDirect: impl.kin, impl.Direct and laws.sameSet.
-/
import Derived.Test.YtkpfbgeaodopoaaDirRecC
import Derived.Test.YtkpfbgeaodopoaaDirDc
import Derived.LaidEql
import Derived.Stop.Asserts
namespace Go.Proofs.Ytkpfbgeaodopoaa.fnDirect
open Go.RowKit
set_option linter.unusedSimpArgs false
set_option linter.unusedVariables false

/-- What '==' of interfaces asks of a type. -/
noncomputable def okT (T : TypeId) : Bool := match Try.prog.underlying T with
  | some (.pointer te) => ((Try.prog.info? T).map (fun i => i.comparable) == some true) && ((Try.prog.info? te).map (fun j => j.size != 0) == some true)
  | _ => false

theorem okT_all : ([43, 63, 66, 67, 70, 74, 77, 78, 81, 82, 83, 84, 85, 89, 92, 93, 94, 95, 96, 97, 106, 116, 119, 122, 123, 126, 129, 133] : List TypeId).all okT = true := by kernel_rfl

theorem isN_info {T : TypeId} (h : isN T = true) : ∃ te i j, Try.prog.underlying T = some (.pointer te) ∧ Try.prog.info? T = some i ∧ i.comparable = true ∧ Try.prog.info? te = some j ∧ j.size ≠ 0 := by
  have h1 : okT T = true := by
    unfold isN at h
    rw [List.contains_eq_mem, decide_eq_true_eq] at h
    exact List.all_eq_true.1 okT_all T h
  unfold okT at h1
  split at h1
  · rename_i te hte
    rw [Bool.and_eq_true] at h1
    obtain ⟨h2, h3⟩ := h1
    rw [beq_iff_eq] at h2 h3
    obtain ⟨i, hi, hi2⟩ := Option.map_eq_some_iff.1 h2
    obtain ⟨j, hj, hj2⟩ := Option.map_eq_some_iff.1 h3
    exact ⟨te, i, j, hte, hi, hi2, hj, by simpa using hj2⟩
  · cases h1

theorem ifaceN : ∃ ms, Try.prog.underlying 42 = some (.interface ms) := by
  have h : (match Try.prog.underlying 42 with | some (.interface _) => true | _ => false) = true := by kernel_rfl
  split at h
  · rename_i ms hms
    exact ⟨ms, hms⟩
  · cases h

/-- Two places hold the same node if they are one. -/
theorem eq_place {c : Ctx} {w1 w' wr : World} {P : Nat → Value} (hs : St c w1 (fun _ => .nilIface) 0 c.n w' P) (hb : Below w'.heap.size w' wr) {p d : Nat} (hp : p < c.n) (hd : d < c.n) (hx : ex (c.E d)) :
    (binOp .eql 42 (P p) (P d)).run Try.prog wr = .ok (.bool (decide (p = d))) wr := by
  obtain ⟨ms, hms⟩ := ifaceN
  obtain ⟨T, x, e1, e2, e3, e4, e5⟩ := hs.fine d (Nat.zero_le _) hd hx
  rw [e1]
  by_cases hxp : ex (c.E p)
  · obtain ⟨T', x', f1, f2, f3, f4, f5⟩ := hs.fine p (Nat.zero_le _) hp hxp
    rw [f1]
    by_cases hTT : T' = T
    · subst hTT
      obtain ⟨te, i, j, g1, g2, g3, g4, g5⟩ := isN_info e2
      by_cases hpd : p = d
      · subst hpd
        rw [e1] at f1
        have e6 := (Value.iface.inj f1).2
        simp at e6
        subst e6
        simp only [decide_true]
        exact run_eql_iface_ptr_same wr _ hms g1 g2 g3 g4
      · rw [decide_eq_false hpd]
        obtain ⟨C1, S1, h1, -⟩ := e4.below hb
        obtain ⟨C2, S2, h2, -⟩ := f4.below hb
        refine run_eql_iface_ptr_other wr hms g1 g2 g3 g4 g5 (fun h => hpd ?_) h2 h1
        simp at h
        subst h
        exact hs.inj p d _ _ _ (Nat.zero_le _) hp hxp (Nat.zero_le _) hd hx f1 e1
    · have hpd : p ≠ d := by
        rintro rfl
        rw [e1] at f1
        exact hTT (Value.iface.inj f1).1.symm
      rw [decide_eq_false hpd]
      exact run_eql_iface_types _ _ _ _ hms hTT wr
  · have hpd : p ≠ d := by
      rintro rfl
      exact hxp hx
    rw [hs.out p (.inr (.inr hxp)), decide_eq_false hpd]
    exact run_eql_iface_nil_left wr _ _ hms

/-- No guard stands ahead of '==' with a node. -/
@[go_sem] theorem guard_iface (op : BinOp) (t : TypeId) (x y : Operand) (v : Value) (T : TypeId) (u : Value) : eqGuard op t x y v (.iface T u) = pure () := by
  cases v <;> cases op <;> rfl

/-- The row that kin makes. -/
def RowK (D : List Nat) (j d p : Nat) : List Nat := D.take j ++ if d < p then [d] else []

theorem RowK.skip {D : List Nat} {j d p : Nat} (h : p ≠ d) : RowK D j d (p + 1) = RowK D j d p := by
  unfold RowK
  by_cases h1 : d < p
  · rw [if_pos h1, if_pos (by omega)]
  · rw [if_neg h1, if_neg (by omega)]

theorem RowK.hit (D : List Nat) (j p : Nat) : RowK D j p (p + 1) = RowK D j p p ++ [p] := by
  unfold RowK
  rw [if_pos (by omega), if_neg (by omega), List.append_nil]

theorem RowK.done {D : List Nat} {j d n : Nat} (h : D[j]? = some d) (hd : d < n) : RowK D j d n = D.take (j + 1) := by
  unfold RowK
  rw [if_pos hd, List.take_add_one, h]
  rfl

theorem RowK.zero (D : List Nat) (j d : Nat) : RowK D j d 0 = D.take j := by
  unfold RowK
  rw [if_neg (by omega), List.append_nil]

theorem RowK.len (D : List Nat) (j d p : Nat) : (RowK D j d p).length ≤ D.length + 1 := by
  unfold RowK
  rw [List.length_append, List.length_take]
  split <;> simp <;> omega

set_option maxRecDepth 100000 in
set_option maxHeartbeats 3200000 in
theorem kin_any (a : Addr) (n cap : Nat) (E : Nat → Nd) (at_ : Nat) (D : List Nat) (w : World) (hT : Tree E n) (hn : n ≤ 400) (hc : cap ≤ maxLen) (ht : Lies w a n E) (hat : at_ < n) (hex : ex (E at_)) (hD2 : D.length ≤ 2) (hD : ∀ d ∈ D, d < n ∧ ex (E d))
    (hdc : ∀ (c : Ctx) (w1 w' : World) (P : Nat → Value), c.E = E → c.n = n → St c w1 (fun _ => .nilIface) 0 c.n w' P → Calls Try.prog 13 #[P at_] w' fun e w2 => ∃ ao cp, e = .returned (.slice ao D.length cp) ∧ Below w'.heap.size w' w2 ∧ ∀ j d, D[j]? = some d → ∃ g, ao = some ⟨g, 0, none⟩ ∧ w2.cell? ⟨g, j, none⟩ = some (P d)) :
    Calls Try.prog 12 #[.slice (some a) n cap, .int .i64 at_, .func (.func 13) #[] #[]] w fun e w' => ∃ v, e = .returned v ∧ NumsIn w' v D ∧ Below w.heap.size w w' := by
  have HG := Lib.hid (grown_any a n cap E w hT hn hc ht)
  have HDC := Lib.hid hdc
  have HD := Lib.hid hD
  have hat' : (at_ : Int) < n := by omega
  clear hT ht hdc hD
  go_enter Try.func12, Try.ntmps12
  go_wp2_with (first
    | (go_at_call 20; refine HG.out.mono ?_; rintro e w2 ⟨c, w1, P, hE, hcn, rfl, hlo, hst, hbw⟩; (have hst' : St c w1 (fun _ => .nilIface) 0 c.n w2 P := (by rw [hcn]; exact hst)); obtain ⟨T, x, e1, e2, e3, e4, e5⟩ := hst'.fine at_ (Nat.zero_le _) (by rw [hcn]; exact hat) (by rw [hE]; exact hex); have hpl := hst'.bld.place (i := at_) (by rw [hcn]; exact hat); rw [e1] at hpl; have HST := Lib.hid hst'; have HE1 := Lib.hid e1; have HC := Lib.hid (And.intro hE hcn); have hpb := hst'.bld.ltp; clear hst hst' hE hcn e1 e2 e3 e4 e5)
    | (go_at_call 13; rw [← HE1.out]; refine (HDC.out c w1 w2 P HC.out.1 HC.out.2 HST.out).mono ?_; rintro e w3 ⟨ao, cp, rfl, hb3, hcells⟩; have HCE := Lib.hid hcells; clear hcells))
  have HP3 : Hid (∀ p, p < n → w3.cell? ⟨c.pb, p, none⟩ = some (P p)) := Lib.hid (fun p hp => (HST.out.bld.below hb3).place (by rw [HC.out.2]; exact hp))
  have hbw3 : Below w.heap.size w w3 := below_step (Nat.le_refl _) hbw hb3
  clear hpl
  go_loopw [9, 44] (fun v q wr => ∃ j : Nat, q = .int .i64 j ∧ j ≤ D.length ∧ wr.ownsRow w3.heap.size 3 1 v (D.take j).length (ints (D.take j)) ∧ Below w3.heap.size w3 wr) (fun _ q _ => D.length - (intOf q).toNat)
  case atStart => exact ⟨0, rfl, Nat.zero_le _, World.ownsRow_nil _ _ _ _, Below.refl _ _⟩
  case round =>
    obtain ⟨j, rfl, hj, hrow, hbel⟩ := hrel
    have HR := Lib.hid hrow
    clear hrow
    by_cases hlt : j < D.length
    · obtain ⟨d, hd⟩ : ∃ d, D[j]? = some d := ⟨_, List.getElem?_eq_getElem hlt⟩
      obtain ⟨g, rfl, hcd⟩ := HCE.out j d hd
      have hcd2 := cell_later hbel hcd
      obtain ⟨hdn, hdx⟩ := HD.out d (List.mem_of_getElem? hd)
      obtain ⟨Td, xd, d1, d2, d3, d4, d5⟩ := HST.out.fine d (Nat.zero_le _) (by rw [HC.out.2]; exact hdn) (by rw [HC.out.1]; exact hdx)
      rw [d1] at hcd2
      have HPD := Lib.hid d1
      have HJ := Lib.hid hd
      have hlt' : (j : Int) < D.length := by omega
      clear hd hcd d1 d2 d3 d4 d5
      go_wp2
      go_loopw [9, 50] (fun v q wr => ∃ p : Nat, q = .int .i64 p ∧ p ≤ n ∧ wr.ownsRow w3.heap.size 3 1 v (RowK D j d p).length (ints (RowK D j d p)) ∧ Below w3.heap.size w3 wr) (fun _ q _ => n - (intOf q).toNat)
      case atStart => exact ⟨0, rfl, Nat.zero_le _, by rw [RowK.zero]; exact HR.out, hbel⟩
      case round =>
        rename World => wq
        obtain ⟨p, rfl, hp, hrow2, hbel2⟩ := hrel
        have HR2 := Lib.hid hrow2
        clear hrow2
        by_cases hpn : p < n
        · have hpc := cell_later hbel2 (HP3.out p hpn)
          have hq := eq_place HST.out (below_step (Nat.le_refl _) hb3 hbel2) (p := p) (d := d) (by rw [HC.out.2]; exact hpn) (by rw [HC.out.2]; exact hdn) (by rw [HC.out.1]; exact hdx)
          rw [HPD.out] at hq
          have hpn' : (p : Int) < n := by omega
          generalize hvp : P p = vp at hpc hq
          clear hvp
          by_cases hpd : p = d
          · rw [decide_eq_true hpd] at hq
            have HPd := Lib.hid hpd
            clear hpd
            have hlen := RowK.len D j d p
            have hsr := hbel2.size
            obtain ⟨ao, cp2, rfl⟩ := owns_slice HR2.out
            go_wp2_with (at_builtin; refine wpList_append_run rfl (.tmp 63) (.tmp 65) 25 rfl (app1 (wr := wq) (B := w3.heap.size) 25 25 3 Try.underlying25 infoInt rfl HR2.out hsr (grown_of_below (by go_grown)) (by omega) (by omega) (.int .i64 p) rfl _ _ (cell_at_new (by simp))) ?_; rintro v1 w5 ⟨hown2, hg, hbb⟩; have HO2 := Lib.hid hown2; have HG2 := Lib.hid hg; have HBB := Lib.hid hbb; clear hown2 hg hbb; have hb2 := (hbel2.alloc hsr _).grown HG2.out (by simp; omega) (fun b hb => (HBB.out b hb).1))
            go_roundw
            case rel =>
              refine ⟨p + 1, by go_num, by omega, ?_, hb2⟩
              have := HPd.out
              subst this
              rw [RowK.hit, List.length_append, ints_snoc]
              exact HO2.out
            case measure => first | (simp [intOf]; done) | (simp [intOf]; omega)
          · rw [decide_eq_false hpd] at hq
            have HPd := Lib.hid hpd
            clear hpd
            go_wp2
            go_roundw
            case rel =>
              refine ⟨p + 1, by go_num, by omega, ?_, hbel2⟩
              rw [RowK.skip HPd.out]
              exact HR2.out
            case measure => first | (simp [intOf]; done) | (simp [intOf]; omega)
        · obtain rfl : p = n := by omega
          go_wp2
          go_roundw
          case rel =>
            refine ⟨j + 1, by go_num, by omega, ?_, hbel2⟩
            rw [← RowK.done HJ.out hdn]
            exact HR2.out
          case measure => first | (simp [intOf]; done) | (simp [intOf]; omega)
    · obtain rfl : j = D.length := by omega
      rw [List.take_length] at HR
      go_wp2
      go_ret
      exact ⟨_, rfl, NumsIn.of_own HR.out, below_step (Nat.le_refl _) hbw3 hbel⟩

/-- What kin asks of the function of nodes. -/
def Dcs (E : Nat → Nd) (n at_ : Nat) (D : List Nat) : Prop :=
  ∀ (c : Ctx) (w1 w' : World) (P : Nat → Value), c.E = E → c.n = n → St c w1 (fun _ => .nilIface) 0 c.n w' P → Calls Try.prog 13 #[P at_] w' fun e w2 => ∃ ao cp, e = .returned (.slice ao D.length cp) ∧ Below w'.heap.size w' w2 ∧ ∀ j d, D[j]? = some d → ∃ g, ao = some ⟨g, 0, none⟩ ∧ w2.cell? ⟨g, j, none⟩ = some (P d)

theorem dcs_none {E : Nat → Nd} {n at_ : Nat} {T0 : TypeId} (hat : at_ < n) (hex : ex (E at_)) (hl : leafT (E at_).kind = some T0)
    (dc : ∀ x w, Calls Try.prog 13 #[.iface T0 (.pointer (some ⟨x, 0, none⟩))] w fun e w' => e = .returned (.slice none 0 0) ∧ w' = w) : Dcs E n at_ [] := by
  intro c w1 w' P hE hn hst
  obtain ⟨T, x, e1, -, -, -, e5⟩ := hst.fine at_ (Nat.zero_le _) (by rw [hn]; exact hat) (by rw [hE]; exact hex)
  obtain rfl := e5.2 T0 (by rw [hE]; exact hl)
  rw [e1]
  refine (dc x w').mono ?_
  rintro e w2 ⟨rfl, rfl⟩
  exact ⟨none, 0, rfl, Below.refl _ _, fun j d h => by simp at h⟩

theorem dcs_one {E : Nat → Nd} {n at_ a0 : Nat} {T0 S0 : TypeId} (hat : at_ < n) (hex : ex (E at_)) (hd : dirT (E at_).kind = some (T0, S0, [(0, 0)])) (hk : (kids E at_)[0]? = some a0) (ha : a0 < n) (hx : ex (E a0))
    (dc : ∀ x w T y, w.cell? ⟨x, 0, none⟩ = some (.iface T (.pointer (some ⟨y, 0, none⟩))) → Calls Try.prog 13 #[.iface T0 (.pointer (some ⟨x, 0, none⟩))] w fun e w' => e = .returned (.slice (some ⟨w.heap.size, 0, none⟩) 1 1) ∧ Below w.heap.size w w' ∧ w'.cell? ⟨w.heap.size, 0, none⟩ = some (.iface T (.pointer (some ⟨y, 0, none⟩)))) : Dcs E n at_ [a0] := by
  intro c w1 w' P hE hn hst
  obtain ⟨T, x, e1, -, -, -, e5⟩ := hst.fine at_ (Nat.zero_le _) (by rw [hn]; exact hat) (by rw [hE]; exact hex)
  obtain ⟨rfl, C, h1, h2, -⟩ := e5.1 T0 S0 [(0, 0)] (by rw [hE]; exact hd)
  obtain ⟨a, h3, -, -, h4⟩ := h2 0 0 (by simp)
  rw [hE, hk] at h3
  cases h3
  obtain ⟨Ta, xa, f1, -⟩ := hst.fine a0 (Nat.zero_le _) (by rw [hn]; exact ha) (by rw [hE]; exact hx)
  rw [e1]
  refine (dc x w' Ta xa (by rw [← f1]; exact cell_of_block h1 h4)).mono ?_
  rintro e w2 ⟨rfl, hb, hc⟩
  refine ⟨_, 1, rfl, hb, fun j d h => ⟨_, rfl, ?_⟩⟩
  match j, h with
  | 0, h => cases h; rw [f1]; exact hc

theorem dcs_two {E : Nat → Nd} {n at_ a0 a1 f0 f1 : Nat} {T0 S0 : TypeId} (hat : at_ < n) (hex : ex (E at_)) (hd : dirT (E at_).kind = some (T0, S0, [(f0, 0), (f1, 1)])) (hk : kids E at_ = [a0, a1]) (ha : a0 < n) (hx : ex (E a0)) (ha1 : a1 < n) (hx1 : ex (E a1))
    (dc : ∀ x w C S T y T' y', w.heap[x]? = some (.cells C S (0, 0)) → C[f0]? = some (.iface T (.pointer (some ⟨y, 0, none⟩))) → C[f1]? = some (.iface T' (.pointer (some ⟨y', 0, none⟩))) → ((E at_).kind = 15 → C[4]? = some (.pointer none)) →
      Calls Try.prog 13 #[.iface T0 (.pointer (some ⟨x, 0, none⟩))] w fun e w' => e = .returned (.slice (some ⟨w.heap.size, 0, none⟩) 2 2) ∧ Below w.heap.size w w' ∧ w'.cell? ⟨w.heap.size, 0, none⟩ = some (.iface T (.pointer (some ⟨y, 0, none⟩))) ∧ w'.cell? ⟨w.heap.size, 1, none⟩ = some (.iface T' (.pointer (some ⟨y', 0, none⟩)))) : Dcs E n at_ [a0, a1] := by
  intro c w1 w' P hE hn hst
  obtain ⟨T, x, e1, -, -, -, e5⟩ := hst.fine at_ (Nat.zero_le _) (by rw [hn]; exact hat) (by rw [hE]; exact hex)
  obtain ⟨rfl, C, h1, h2, h15⟩ := e5.1 T0 S0 [(f0, 0), (f1, 1)] (by rw [hE]; exact hd)
  obtain ⟨a, h3, -, -, h4⟩ := h2 f0 0 (by simp)
  obtain ⟨b, h5, -, -, h6⟩ := h2 f1 1 (by simp)
  rw [hE] at h15
  rw [hE, hk] at h3 h5
  cases h3
  cases h5
  obtain ⟨Ta, xa, g1, -⟩ := hst.fine a0 (Nat.zero_le _) (by rw [hn]; exact ha) (by rw [hE]; exact hx)
  obtain ⟨Tb, xb, g2, -⟩ := hst.fine a1 (Nat.zero_le _) (by rw [hn]; exact ha1) (by rw [hE]; exact hx1)
  rw [e1]
  refine (dc x w' C S0 Ta xa Tb xb h1 (by rw [← g1]; exact h4) (by rw [← g2]; exact h6) h15).mono ?_
  rintro e w2 ⟨rfl, hb, hc, hc2⟩
  refine ⟨_, 2, rfl, hb, fun j d h => ⟨_, rfl, ?_⟩⟩
  match j, h with
  | 0, h => cases h; rw [g1]; exact hc
  | 1, h => cases h; rw [g2]; exact hc2

theorem direct_of (a : Addr) (n cap : Nat) (E : Nat → Nd) (at_ : Nat) (D : List Nat) (w : World) (hT : Tree E n) (hn : n ≤ 400) (hc : cap ≤ maxLen) (ht : Lies w a n E) (hat : at_ < n) (hex : ex (E at_)) (hD2 : D.length ≤ 2) (hD : ∀ d ∈ D, d < n ∧ ex (E d)) (hdc : Dcs E n at_ D) :
    Calls Try.prog 8 #[.slice (some a) n cap, .int .i64 at_] w fun e w' => ∃ v, e = .returned v ∧ NumsIn w' v D ∧ Below w.heap.size w w' := by
  have HK := Lib.hid (kin_any a n cap E at_ D w hT hn hc ht hat hex hD2 hD hdc)
  clear hT ht hdc hD
  go_enter Try.func8, Try.ntmps8
  go_wp2_with (go_at_call 12; refine HK.out.mono ?_; rintro e w2 ⟨v, rfl, hI, hb⟩)
  go_ret
  exact ⟨_, rfl, hI, hb⟩

/-- The direct kids, as the law has them. -/
noncomputable def DirOf (E : Nat → Nd) (i : Nat) : List Nat := if (E i).kind ∈ [(22 : Int), 23, 15, 24] then kids E i else if (E i).kind = 18 then (kids E i).take 1 else []

theorem direct_any (a : Addr) (n cap : Nat) (E : Nat → Nd) (i : Nat) (w : World) (hT : Tree E n) (hn : n ≤ 400) (hc : cap ≤ maxLen) (ht : Lies w a n E) (hi : i < n) (hk : (E i).kind ∈ [(22 : Int), 23, 15, 24, 18, 11, 8, 1, 2, 3, 4, 5, 6, 7]) :
    Calls Try.prog 8 #[.slice (some a) n cap, .int .i64 i] w fun e w' => ∃ v, e = .returned v ∧ NumsIn w' v (DirOf E i) ∧ Below w.heap.size w w' := by
  have hS := hT.2.2 i hi
  have hkn : ∀ k ∈ kids E i, k < n := fun k hk => by
    have h1 := (hT.1.2.2 i hi).kin.mem hk
    have h2 := (hT.1.2.2 i hi).2.1
    omega
  have hex : ex (E i) := by
    unfold ex
    simp only [List.mem_cons, List.not_mem_nil, or_false] at hk
    omega
  have one : ∀ q T0 S0, (E i).kind = q → q ∈ [(22 : Int), 24, 18] → dirT q = some (T0, S0, [(0, 0)]) → (∀ x w T y, w.cell? ⟨x, 0, none⟩ = some (.iface T (.pointer (some ⟨y, 0, none⟩))) → Calls Try.prog 13 #[.iface T0 (.pointer (some ⟨x, 0, none⟩))] w fun e w' => e = .returned (.slice (some ⟨w.heap.size, 0, none⟩) 1 1) ∧ Below w.heap.size w w' ∧ w'.cell? ⟨w.heap.size, 0, none⟩ = some (.iface T (.pointer (some ⟨y, 0, none⟩)))) →
      Calls Try.prog 8 #[.slice (some a) n cap, .int .i64 i] w fun e w' => ∃ v, e = .returned v ∧ NumsIn w' v (DirOf E i) ∧ Below w.heap.size w w' := by
    intro q T0 S0 hq hqm hd dc
    have h0 : ∃ a0, (kids E i)[0]? = some a0 ∧ ex (E a0) ∧ DirOf E i = [a0] := by
      unfold DirOf
      rw [hq]
      simp only [List.mem_cons, List.not_mem_nil, or_false] at hqm
      cases hS with
      | one a hk2 _ hl hx =>
        refine ⟨a, by rw [hl]; rfl, hx, ?_⟩
        rw [hq] at hk2
        rcases hqm with rfl | rfl | rfl
        · rw [if_pos (by decide), hl]
        · rw [if_pos (by decide), hl]
        · simp at hk2
      | apply a l' hk2 hl hx =>
        refine ⟨a, by rw [hl]; rfl, hx, ?_⟩
        rw [hq] at hk2
        subst hk2
        rw [if_neg (by decide), if_pos rfl, hl]
        rfl
      | _ => simp_all <;> omega
    obtain ⟨a0, h1, h2, h3⟩ := h0
    have ha0 := hkn a0 (List.mem_of_getElem? h1)
    rw [h3]
    exact direct_of a n cap E i [a0] w hT hn hc ht hi hex (by simp) (fun d hd => by rw [List.mem_singleton.1 hd]; exact ⟨ha0, h2⟩) (dcs_one hi hex (by rw [hq]; exact hd) h1 ha0 h2 dc)
  have two : ∀ q, (E i).kind = q → q ∈ [(23 : Int), 15] → ∃ a0 a1, kids E i = [a0, a1] ∧ ex (E a0) ∧ ex (E a1) ∧ DirOf E i = [a0, a1] := by
    intro q hq hqm
    unfold DirOf
    simp only [List.mem_cons, List.not_mem_nil, or_false] at hqm
    cases hS with
    | two a b hk2 _ hl hx hx2 =>
      refine ⟨a, b, hl, hx, hx2, ?_⟩
      rw [hq]
      rcases hqm with rfl | rfl
      · rw [if_pos (by decide), hl]
      · rw [if_pos (by decide), hl]
    | _ => simp_all <;> omega
  have none_ : ∀ q T0, (E i).kind = q → q ∈ [(11 : Int), 8, 1, 2, 3, 4, 5, 6, 7] → leafT q = some T0 → (∀ x w, Calls Try.prog 13 #[.iface T0 (.pointer (some ⟨x, 0, none⟩))] w fun e w' => e = .returned (.slice none 0 0) ∧ w' = w) →
      Calls Try.prog 8 #[.slice (some a) n cap, .int .i64 i] w fun e w' => ∃ v, e = .returned v ∧ NumsIn w' v (DirOf E i) ∧ Below w.heap.size w w' := by
    intro q T0 hq hqm hl dc
    have h3 : DirOf E i = [] := by
      unfold DirOf
      rw [hq]
      simp only [List.mem_cons, List.not_mem_nil, or_false] at hqm
      rw [if_neg (by simp; omega), if_neg (by omega)]
    rw [h3]
    exact direct_of a n cap E i [] w hT hn hc ht hi hex (by simp) (fun d hd => absurd hd (by simp)) (dcs_none hi hex (by rw [hq]; exact hl) dc)
  simp only [List.mem_cons, List.not_mem_nil, or_false] at hk
  rcases hk with h | h | h | h | h | h | h | h | h | h | h | h | h | h
  · exact one 22 _ _ h (by decide) rfl (fun x w T y hc => dc_Unary x w T y hc)
  · obtain ⟨a0, a1, h1, h2, h3, h4⟩ := two 23 h (by decide)
    have b0 := hkn a0 (by rw [h1]; simp)
    have b1 := hkn a1 (by rw [h1]; simp)
    rw [h4]
    exact direct_of a n cap E i [a0, a1] w hT hn hc ht hi hex (by simp) (fun d hd => by simp at hd; rcases hd with rfl | rfl; exact ⟨b0, h2⟩; exact ⟨b1, h3⟩) (dcs_two hi hex (f0 := 1) (f1 := 0) (by rw [h]; rfl) h1 b0 h2 b1 h3 (fun x w C S T y T' y' hb g0 g1 _ => dc_Binary x w T y T' y' (cell_of_block hb g0) (cell_of_block hb g1)))
  · obtain ⟨a0, a1, h1, h2, h3, h4⟩ := two 15 h (by decide)
    have b0 := hkn a0 (by rw [h1]; simp)
    have b1 := hkn a1 (by rw [h1]; simp)
    rw [h4]
    exact direct_of a n cap E i [a0, a1] w hT hn hc ht hi hex (by simp) (fun d hd => by simp at hd; rcases hd with rfl | rfl; exact ⟨b0, h2⟩; exact ⟨b1, h3⟩) (dcs_two hi hex (f0 := 0) (f1 := 1) (by rw [h]; rfl) h1 b0 h2 b1 h3 (fun x w C S T y T' y' hb g0 g1 g4 => dc_Index x w T y T' y' (cell_of_block hb g0) (cell_of_block hb g1) (cell_of_block hb (g4 h))))
  · exact one 24 _ _ h (by decide) rfl (fun x w T y hc => dc_Error x w T y hc)
  · exact one 18 _ _ h (by decide) rfl (fun x w T y hc => dc_Apply x w T y hc)
  · exact none_ 11 _ h (by decide) rfl (fun x w => dc_Array x w)
  · exact none_ 8 _ h (by decide) rfl (fun x w => dc_Var x w)
  · exact none_ 1 _ h (by decide) rfl (fun x w => dc_LiteralNull x w)
  · exact none_ 2 _ h (by decide) rfl (fun x w => dc_LiteralBoolean x w)
  · exact none_ 3 _ h (by decide) rfl (fun x w => dc_LiteralBoolean x w)
  · exact none_ 4 _ h (by decide) rfl (fun x w => dc_LiteralNumber x w)
  · exact none_ 5 _ h (by decide) rfl (fun x w => dc_LiteralString x w)
  · exact none_ 6 _ h (by decide) rfl (fun x w => dc_Self x w)
  · exact none_ 7 _ h (by decide) rfl (fun x w => dc_Dollar x w)

set_option maxRecDepth 100000 in
set_option maxHeartbeats 1600000 in
theorem same_any (l : List Nat) (va vb : Value) (w : World) (hnd : l.Nodup) (hlen : l.length ≤ 400) (hA : NumsIn w va l) (hB : NumsIn w vb l) :
    Calls Try.prog 7 #[va, vb] w fun e w' => e = .returned (.bool true) ∧ Below w.heap.size w w' := by
  obtain ⟨ao, cp, rfl, hc1, hc2⟩ := hA.form
  obtain ⟨bo, cq, rfl, hc3, hc4⟩ := hB.form
  have HA := Lib.hid hA
  have HB := Lib.hid hB
  have HN := Lib.hid hnd
  clear hA hB hnd
  go_enter Try.func7, Try.ntmps7
  go_wp2
  go_loopw [5] (fun v wr => ∃ i : Nat, v = .int .i64 i ∧ i ≤ l.length ∧ Below w.heap.size w wr) (fun v _ => l.length - (intOf v).toNat)
  case atStart => exact ⟨0, rfl, Nat.zero_le _, Below.refl _ _⟩
  case round =>
    obtain ⟨i, rfl, hi, hbel⟩ := hrel
    by_cases hlt : i < l.length
    · obtain ⟨y, hy⟩ : ∃ y, l[i]? = some y := ⟨_, List.getElem?_eq_getElem hlt⟩
      obtain ⟨gb, ob, rfl, hcy0⟩ := HB.out.get hy
      have HY := Lib.hid hy
      clear hy
      have hlt' : (i : Int) < l.length := by omega
      rename World => W0
      go_wp2
      go_loopw [6, 7] (fun u v wr => ∃ (k : Nat) (m : Int), u = .int .i64 m ∧ v = .int .i64 k ∧ k ≤ l.length ∧ ((k ≤ i ∧ m = 0) ∨ (i < k ∧ m = 1)) ∧ Below w.heap.size w wr) (fun _ v _ => l.length - (intOf v).toNat)
      case atStart => exact ⟨0, 0, rfl, rfl, Nat.zero_le _, .inl ⟨Nat.zero_le _, rfl⟩, hbel⟩
      case round =>
        obtain ⟨k, m, rfl, rfl, hk, hkm, hbel2⟩ := hrel
        by_cases hlt2 : k < l.length
        · obtain ⟨x, hx⟩ : ∃ x, l[k]? = some x := ⟨_, List.getElem?_eq_getElem hlt2⟩
          obtain ⟨ga, oa, rfl, hcx0⟩ := HA.out.get hx
          have hcx := cell_later hbel2 hcx0
          have hcy := cell_later hbel2 hcy0
          have hlt2' : (k : Int) < l.length := by omega
          clear hcx0
          by_cases hki : k = i
          · subst hki
            have : x = y := by
              rw [HY.out] at hx
              exact (Option.some.inj hx).symm
            subst this
            obtain rfl : m = 0 := by omega
            clear hx hkm
            go_wp2
            go_region
            go_wp2
            go_roundw
            case rel => exact ⟨k + 1, 1, by go_num, by go_num, by omega, .inr ⟨by omega, rfl⟩, by go_grown⟩
            case measure => first | (simp [intOf]; done) | (simp [intOf]; omega)
          · have hxy : ¬ (x : Int) = y := by
              intro h
              have h2 : x = y := by omega
              subst h2
              have h3 := (List.getElem?_inj hlt2 HN.out).1 (hx.trans HY.out.symm)
              exact hki h3
            have d1 : ((x : Int) == (y : Int)) = false := by simpa using hxy
            have HKM := Lib.hid hkm
            clear hx hkm
            go_wp2
            go_region
            go_wp2
            go_roundw
            case rel => exact ⟨k + 1, m, rfl, by go_num, by omega, by have := HKM.out; omega, by go_grown⟩
            case measure => first | (simp [intOf]; done) | (simp [intOf]; omega)
        · obtain rfl : k = l.length := by omega
          obtain rfl : m = 1 := by omega
          go_wp2
          go_roundw
          case rel => exact ⟨i + 1, by go_num, by omega, hbel2⟩
          case measure => first | (simp [intOf]; done) | (simp [intOf]; omega)
    · obtain rfl : i = l.length := by omega
      go_wp2
      go_ret
      exact ⟨rfl, hbel⟩
end Go.Proofs.Ytkpfbgeaodopoaa.fnDirect
