/-
  The walk of the law 'FnAppendUUIDOrderFollowsBytes' (function 3).
-/
import Derived.Test.Qxb6623418aApp
import Derived.Deep.RegionWith
namespace Go.Proofs.Qxb6623418a
open Go.RowKit Go.WideShapes Cmp
set_option linter.unusedVariables false
set_option maxRecDepth 100000

theorem Came.mono {w w' : World} {ao : Option Addr} {n c : Nat} {z : List Int} (h : Came w ao n c z) (hb : Below w.heap.size w w') : Came w' ao n c z := ⟨h.1, h.2.1, h.later hb⟩
theorem Came.holds {w : World} {ad : Addr} {n c : Nat} {z : List Int} (h : Came w (some ad) n c z) : (0 < n → ad.spot = none) ∧ Holds w ad z := by
  have hz := h.1
  have hs : 0 < n → ad.spot = none := fun hn => by
    have hc := h.2.2 ad rfl 0 (.int .u8 (z.getD 0 0)) (by simp [cellsOf, show 0 < z.length by omega])
    simpa [Addr.add] using World.cell?_spot hc
  refine ⟨hs, fun k hk => ?_⟩
  obtain ⟨b, off, spot⟩ := ad
  obtain rfl : spot = none := hs (by omega)
  rw [← add_plain]
  exact h.2.2 _ rfl k _ (by simp [cellsOf, hk])

theorem clone_any (ao : Option Addr) (n c : Nat) (z : List Int) (w : World) (hn : n ≤ 1099511627776) (hc : Came w ao n c z) :
    Calls Try.prog 5 #[.slice ao n c] w fun e w' => ∃ ao', e = .returned (.slice ao' n n) ∧ Came w' ao' n n z ∧ Below w.heap.size w w' := by
  cases ao with
  | none =>
    obtain ⟨rfl, rfl⟩ := hc.2.1 rfl
    exact (clone_nil w).mono fun e w' ⟨he, hw⟩ => ⟨none, he, hw ▸ hc, hw ▸ Below.refl _ _⟩
  | some ad =>
    obtain ⟨hs, hh⟩ := hc.holds
    exact (clone_some ad n c z w hc.1 hn hs hh).mono fun e w' ⟨he, hb, hw⟩ => ⟨_, he, ⟨hc.1, fun h => by (cases h), fun ad' had => by obtain rfl := Option.some.inj had; exact box_cells hb⟩, hw⟩

set_option maxHeartbeats 400000 in
theorem bytes4 (ao : Option Addr) (n c : Nat) (u v : List Int) (w : World) (hn : n ≤ 1048576) :
    Calls Try.prog 4 #[.slice ao n c, .agg (arrOf u), .agg (arrOf v)] w fun e w' => e = .returned (.bool true) ∧ Below w.heap.size w w' := by
  go_enter Try.func4, Try.ntmps4
  go_wp2
  go_ret
  exact ⟨rfl, ((Below.refl _ _).alloc (Nat.le_refl _) _).alloc (by simp) _⟩
theorem bytes4_no (ao : Option Addr) (n c : Nat) (u v : List Int) (w : World) (hn : 1048576 < n) (hm : n ≤ maxLen) :
    Calls Try.prog 4 #[.slice ao n c, .agg (arrOf u), .agg (arrOf v)] w fun e w' => e = .returned (.bool false) ∧ Below w.heap.size w w' := by
  unfold maxLen at hm
  go_enter Try.func4, Try.ntmps4
  go_wp2
  go_ret
  exact ⟨rfl, ((Below.refl _ _).alloc (Nat.le_refl _) _).alloc (by simp) _⟩

theorem Try.size23 : (Try.prog.info? 23).map (·.size) = some 16 := by kernel_rfl
theorem size23 (u : List Int) (h : u.length = 16) : (Try.prog.info? 23).map (·.size) = some (arrOf u).size := by
  rw [Try.size23]; simp [arrOf, cellsOf_length, h]

set_option maxHeartbeats 400000 in
theorem main_early (ao : Option Addr) (n c : Nat) (u v : List Int) (w : World) (hu : u.length = 16) (hv : v.length = 16) (hn : 1048576 < n) (hm : n ≤ maxLen) :
    Calls Try.prog 3 #[.slice ao n c, .agg (arrOf u), .agg (arrOf v)] w fun e w' => e = .returned (.bool true) ∧ Below w.heap.size w w' := by
  have HU := size23 u hu
  have HV := size23 v hv
  have b1 : Box 23 ((w.alloc (.cells (arrOf u) 23)).alloc (.cells (arrOf v) 23)) w.heap.size u := heap_alloc2_old _ _ _
  have b2 : Box 23 ((w.alloc (.cells (arrOf u) 23)).alloc (.cells (arrOf v) 23)) (w.heap.size + 1) v := heap_alloc2_new _ _ _
  clear hu hv
  go_enter Try.func3, Try.ntmps3
  go_wp2_with (first | (refine wpList_load_row rfl 23 (.tmp 4) rfl w.heap.size rfl 23 (arrOf u) (0, 0) _ b1 Try.underlying23 rfl HU ?_) | (refine wpList_load_row rfl 23 (.tmp 5) rfl (w.heap.size + 1) rfl 23 (arrOf v) (0, 0) _ b2 Try.underlying23 rfl HV ?_) | (go_at_call 4; go_must (refine (bytes4_no _ _ _ _ _ _ hn hm).mono ?_; rintro e w' ⟨rfl, hb⟩)))
  go_ret
  exact ⟨rfl, (((Below.refl _ _).alloc (Nat.le_refl _) _).alloc (by simp) _).trans (hb.mono (by simp only [World.size_alloc]; omega))⟩

/-- What the loops read, all in one. -/
def Inv (w : World) (ap : Option Addr) (n gu gv bu : Nat) (z u v : List Int) (w' : World) : Prop :=
  Came w' ap n n z ∧ Holds w' ⟨gu, 0, none⟩ (z ++ 48 :: u) ∧ Holds w' ⟨gv, 0, none⟩ (z ++ 48 :: v) ∧ Box 23 w' bu u ∧ Box 23 w' (bu + 1) v ∧ Below w.heap.size w w'
theorem Inv.drewN {w w' : World} {ap : Option Addr} {n gu gv bu : Nat} {z u v : List Int} (h : Inv w ap n gu gv bu z u v w') (k : Nat) : Inv w ap n gu gv bu z u v (w'.drewN k) :=
  ⟨h.1, h.2.1, h.2.2.1, h.2.2.2.1, h.2.2.2.2.1, below_drewN h.2.2.2.2.2 k⟩
theorem Inv.drew {w w' : World} {ap : Option Addr} {n gu gv bu : Nat} {z u v : List Int} (h : Inv w ap n gu gv bu z u v w') : Inv w ap n gu gv bu z u v w'.drew :=
  ⟨h.1, h.2.1, h.2.2.1, h.2.2.2.1, h.2.2.2.2.1, h.2.2.2.2.2.drew⟩
theorem owned_holds {w : World} {base g n cap : Nat} {z : List Int} (h : w.ownsRow base 5 1 (.slice (some ⟨g, 0, none⟩) n cap) n (cellsOf z)) : Holds w ⟨g, 0, none⟩ z := by
  intro k hk
  have hn : z.length = n := by have := h.1; rw [cellsOf_length] at this; omega
  show w.cell? ⟨g, 0 + k, none⟩ = _
  rw [Nat.zero_add, h.cellAt k (by omega)]
  simp [cellsOf, hk]
theorem Holds.later {w w' : World} {a : Addr} {z : List Int} (h : Holds w a z) (hb : Below w.heap.size w w') : Holds w' a z := by
  intro k hk
  have hc := h k hk
  rw [hb.cell (World.block_lt_of_cell? w _ hc)]
  exact hc

theorem packed_low (z u : List Int) (k : Nat) (h : k < z.length) : (z ++ 48 :: u).getD k 0 = z.getD k 0 := by
  simp [List.getD_eq_getElem?_getD, List.getElem?_append_left h]
theorem packed_mid (z u : List Int) : (z ++ 48 :: u).getD z.length 0 = 48 := by
  simp [List.getD_eq_getElem?_getD]
theorem packed_high (z u : List Int) (k : Nat) : (z ++ 48 :: u).getD (z.length + 1 + k) 0 = u.getD k 0 := by
  rw [List.getD_eq_getElem?_getD, List.getD_eq_getElem?_getD, List.getElem?_append_right (by omega), show z.length + 1 + k - z.length = k + 1 by omega]
  simp
theorem holds_low {w : World} {g : Nat} {z u : List Int} (h : Holds w ⟨g, 0, none⟩ (z ++ 48 :: u)) (k : Nat) (hk : k < z.length) : w.cell? ⟨g, k, none⟩ = some (.int .u8 (z.getD k 0)) := by
  have := h k (by simp; omega)
  rwa [packed_low z u k hk, show (⟨g, 0, none⟩ : Addr).off + k = k from Nat.zero_add k] at this
theorem holds_mid {w : World} {g n : Nat} {z u : List Int} (h : Holds w ⟨g, 0, none⟩ (z ++ 48 :: u)) (hz : z.length = n) : w.cell? ⟨g, n, none⟩ = some (.int .u8 48) := by
  have := h z.length (by simp)
  rwa [packed_mid z u, show (⟨g, 0, none⟩ : Addr).off + z.length = z.length from Nat.zero_add _, hz] at this
theorem holds_high {w : World} {g n : Nat} {z u : List Int} (h : Holds w ⟨g, 0, none⟩ (z ++ 48 :: u)) (hz : z.length = n) (k : Nat) (hk : k < u.length) : w.cell? ⟨g, n + 1 + k, none⟩ = some (.int .u8 (u.getD k 0)) := by
  have := h (z.length + 1 + k) (by simp; omega)
  rwa [packed_high z u k, show (⟨g, 0, none⟩ : Addr).off + (z.length + 1 + k) = z.length + 1 + k from Nat.zero_add _, hz] at this

/-- A region that draws its order, walked once in a class of worlds. -/
theorem region_class {P : Program} {C : World → Prop} {id : Nat} {Q : Exit → Act → World → Prop} {a : Act} {w : World} {l : List Oper} (hm : P.follows .mixedOrders = true) (hB : Region.lexB .any l.toArray = true) (hC : C w.drew)
    (h : wpQuiet P l.toArray C (fun a' => ∀ w', C w' → Q .normal a' w') l a) : (Code.region id l.toArray true).wp P Q a w :=
  wp_region_quiet (C := C) hm hB hC (by simpa using h)
/-- A whole array read out of a box that every world of the class holds. -/
theorem q_load_row {P : Program} {C : World → Prop} {ops : Array Oper} {rest : List Oper} {o : Oper} {a : Act} {Q : Act → Prop} (hgd : o.guard = none) (ty : TypeId) (x : Operand) (ho : o.op = .load ty x)
    (g : Nat) (hx : a.eval x = .pointer (some ⟨g, 0, none⟩)) (t : TypeId) (cs : Array Value) (fr : Nat × Nat) (d : TypeDesc) (hg : ∀ w, C w → w.heap[g]? = some (.cells cs t fr))
    (hu : P.underlying ty = some d) (hd : (match d with | .struct _ | .array _ _ => true | _ => false) = true) (hi : (P.info? ty).map (·.size) = some cs.size)
    (h : wpQuiet P ops C Q rest (a.put o.dst (.agg cs))) : wpQuiet P ops C Q (o :: rest) a := by
  refine wpQuiet_step fun K hK => ?_
  rw [if_pos (by simp [Region.wanted, hgd])]
  refine ⟨.agg cs, fun w hC => ?_, hK _ h⟩
  unfold Oper.quietAt execOp
  simp only [ho, hx, Instr.loadAt, Instr.sureAddr, Sem.run_bind, Sem.run_pure, Result.andThen_ok, run_loadVar_row (P := P) w g t ty cs fr d (hg w hC) hu hd hi]
  exact ⟨rfl, rfl⟩
theorem q_move {P : Program} {C : World → Prop} {ops : Array Oper} {rest : List Oper} {o : Oper} {a : Act} {Q : Act → Prop} (hgd : o.guard = none) (x : Operand) (ho : o.op = .move x)
    (h : wpQuiet P ops C Q rest (a.put o.dst (a.eval x))) : wpQuiet P ops C Q (o :: rest) a :=
  BigFrame.wpQuiet_want (by simp [Region.wanted, hgd]) fun K hK => BigFrame.quiet_move x ho (hK _ h)
theorem q_assign {P : Program} {C : World → Prop} {ops : Array Oper} {rest : List Oper} {o : Oper} {a : Act} {Q : Act → Prop} (hgd : o.guard = none) (x : Operand) (ho : o.op = .assign x)
    (h : wpQuiet P ops C Q rest (a.put o.dst (a.eval x))) : wpQuiet P ops C Q (o :: rest) a :=
  BigFrame.wpQuiet_want (by simp [Region.wanted, hgd]) fun K hK => BigFrame.quiet_assign x ho (hK _ h)

set_option maxHeartbeats 4000000 in
theorem main_any (ao : Option Addr) (n c : Nat) (z u v : List Int) (w : World) (hu : u.length = 16) (hv : v.length = 16) (hn : n ≤ 1048576) (hc : Came w ao n c z) :
    Calls Try.prog 3 #[.slice ao n c, .agg (arrOf u), .agg (arrOf v)] w fun e w' => e = .returned (.bool true) ∧ Below w.heap.size w w' := by
  have HU := size23 u hu
  have HV := size23 v hv
  have b1 : Box 23 ((w.alloc (.cells (arrOf u) 23)).alloc (.cells (arrOf v) 23)) w.heap.size u := heap_alloc2_old _ _ _
  have b2 : Box 23 ((w.alloc (.cells (arrOf u) 23)).alloc (.cells (arrOf v) 23)) (w.heap.size + 1) v := heap_alloc2_new _ _ _
  have B0 : Below w.heap.size w ((w.alloc (.cells (arrOf u) 23)).alloc (.cells (arrOf v) 23)) := ((Below.refl _ _).alloc (Nat.le_refl _) _).alloc (by simp) _
  have C0 := hc.mono B0
  have HZ : Hid (z.length = n) := hc.1
  have Hu : Hid (u.length = 16) := hu
  have Hv : Hid (v.length = 16) := hv
  clear hu hv hc
  go_enter Try.func3, Try.ntmps3
  go_wp2_with (first | (refine wpList_load_row rfl 23 (.tmp 4) rfl w.heap.size rfl 23 (arrOf u) (0, 0) _ b1 Try.underlying23 rfl HU ?_) | (refine wpList_load_row rfl 23 (.tmp 5) rfl (w.heap.size + 1) rfl 23 (arrOf v) (0, 0) _ b2 Try.underlying23 rfl HV ?_))
  refine (bytes4 _ _ _ _ _ _ hn).mono ?_
  rintro e w1 ⟨rfl, h1⟩
  have b1' := b1.below h1 b1.lt
  have b2' := b2.below h1 b2.lt
  have B1 := B0.trans (h1.mono (by simp only [World.size_alloc]; omega))
  have C1 := C0.mono h1
  clear b1 b2 B0 C0 h1
  go_wp2_with fail
  refine (clone_any _ _ _ z _ (by omega) C1).mono ?_
  rintro e w2 ⟨ap, rfl, C2, h2⟩
  have b1 := b1'.below h2 b1'.lt
  have b2 := b2'.below h2 b2'.lt
  have B2 := B1.trans (h2.mono B1.size)
  clear b1' b2' B1 C1 h2
  go_wp2_with fail
  refine (clone_any _ _ _ z _ (by omega) C2).mono ?_
  rintro e w3 ⟨au, rfl, CU, h3⟩
  have b1' := b1.below h3 b1.lt
  have b2' := b2.below h3 b2.lt
  have C3 := C2.mono h3
  have B3 := B2.trans (h3.mono B2.size)
  clear b1 b2 B2 C2 h3
  go_wp2_with fail
  refine (clone_any _ _ _ z _ (by omega) C3).mono ?_
  rintro e w4 ⟨av, rfl, CV, h4⟩
  have b1 := b1'.below h4 b1'.lt
  have b2 := b2'.below h4 b2'.lt
  have C4 := C3.mono h4
  have CU4 := CU.mono h4
  have B4 := B3.trans (h4.mono B3.size)
  clear b1' b2' B3 C3 h4 CU
  go_wp2_with (refine wpList_load_row rfl 23 (.tmp 4) rfl w.heap.size rfl 23 (arrOf u) (0, 0) _ b1 Try.underlying23 rfl HU ?_)
  refine (app_any _ _ z _ _ (by omega) Hu.out CU4).mono ?_
  rintro e w5 ⟨gu, cu, rfl, hgu, OU, h5⟩
  have b1' := b1.below h5 b1.lt
  have b2' := b2.below h5 b2.lt
  have C5 := C4.mono h5
  have CV5 := CV.mono h5
  have EU := owned_holds OU
  have B5 := B4.trans (h5.mono B4.size)
  clear b1 b2 B4 C4 h5 CU4 CV OU
  go_wp2_with (refine wpList_load_row rfl 23 (.tmp 5) rfl (w.heap.size + 1) rfl 23 (arrOf v) (0, 0) _ b2' Try.underlying23 rfl HV ?_)
  refine (app_any _ _ z _ _ (by omega) Hv.out CV5).mono ?_
  rintro e w6 ⟨gv, cv, rfl, hgv, OV, h6⟩
  have I6 : Inv w ap n gu gv w.heap.size z u v w6 := ⟨C5.mono h6, EU.later h6, owned_holds OV, b1'.below h6 b1'.lt, b2'.below h6 b2'.lt, B5.trans (h6.mono B5.size)⟩
  clear b1' b2' B5 C5 h6 CV5 OV EU
  go_wp2_with fail
  go_loopw [12] (fun i wr => ∃ k : Nat, k ≤ n ∧ i = .int .i64 k ∧ Inv w ap n gu gv w.heap.size z u v wr) (fun i _ => n - (intOf i).toNat)
  case atStart => exact ⟨0, by omega, rfl, I6⟩
  case round =>
    obtain ⟨k, hk, rfl, IR⟩ := hrel
    clear I6
    by_cases hlt : k < n
    · have ceu := holds_low IR.2.1 k (by rw [HZ.out]; exact hlt)
      have cev := holds_low IR.2.2.1 k (by rw [HZ.out]; exact hlt)
      obtain ⟨b, o, hap, hcp⟩ : ∃ b o, ap = some ⟨b, o, none⟩ ∧ wr.cell? ⟨b, o + k, none⟩ = some (.int .u8 (z.getD k 0)) := by
        cases ap with
        | none => have := (IR.1.2.1 rfl).1; omega
        | some ad =>
          obtain ⟨hs, hh⟩ := IR.1.holds
          obtain ⟨b, o, sp⟩ := ad
          obtain rfl : sp = none := hs (by omega)
          exact ⟨b, o, rfl, hh k (by rw [HZ.out]; exact hlt)⟩
      subst hap
      have i1 : (k : Int) < (n : Int) := by omega
      have i2 : (k : Int) < (n : Int) + 17 := by omega
      go_wp2_with fail
      go_quiet (fail)
      go_wp2_with fail
      go_roundw
      case rel => exact ⟨k + 1, by omega, by go_num, IR.drewN _⟩
      case measure => simp [intOf]; omega
    · have cmu := holds_mid IR.2.1 HZ.out
      have cmv := holds_mid IR.2.2.1 HZ.out
      go_wp2_with fail
      clear cmu cmv
      go_loopw [13] (fun i wr => ∃ k : Nat, k ≤ 16 ∧ i = .int .i64 k ∧ Inv w ap n gu gv w.heap.size z u v wr) (fun i _ => 16 - (intOf i).toNat)
      case atStart => exact ⟨0, by omega, rfl, IR⟩
      case round =>
        rename_i wq _
        obtain ⟨q, hq, rfl, IQ⟩ := hrel
        clear IR
        by_cases hl2 : q < 16
        · have ceu := holds_high IQ.2.1 HZ.out q (by rw [Hu.out]; exact hl2)
          have cev := holds_high IQ.2.2.1 HZ.out q (by rw [Hv.out]; exact hl2)
          have cu0 := IQ.2.2.2.1.cell q (by rw [Hu.out]; exact hl2)
          have cv0 := IQ.2.2.2.2.1.cell q (by rw [Hv.out]; exact hl2)
          have i1 : (n : Int) + 1 + (q : Int) < (n : Int) + 17 := by omega
          go_wp2_with fail
          go_quiet (fail)
          go_wp2_with fail
          go_roundw
          case rel => exact ⟨q + 1, by omega, by go_num, IQ.drewN _⟩
          case measure => simp [intOf]; omega
        · go_wp2_with fail
          have F7 : ∀ W, Inv w ap n gu gv w.heap.size z u v W → Calls Try.prog 7 #[.slice (some ⟨gu, 0, none⟩) (n + 17) cu, .slice (some ⟨gv, 0, none⟩) (n + 17) cv] W fun e w' => e = .returned (.int .i64 (cmp u v)) ∧ Inv w ap n gu gv w.heap.size z u v w' := by
            intro W hI
            have := cmpb_any gu 0 cu gv 0 cv (n + 17) (z ++ 48 :: u) (z ++ 48 :: v) W (by simp [HZ.out, Hu.out]) (by simp [HZ.out, Hv.out]) (by omega) hI.2.1 hI.2.2.1
            rw [cmp_packed] at this
            exact this.mono fun e w' ⟨he, m, hw⟩ => ⟨he, hw ▸ hI.drewN m⟩
          have F8 : ∀ W, Inv w ap n gu gv w.heap.size z u v W → Calls Try.prog 8 #[.agg (arrOf u), .agg (arrOf v)] W fun e w' => e = .returned (.int .i64 (cmp u v)) ∧ Inv w ap n gu gv w.heap.size z u v w' := by
            intro W hI
            exact (arr_any u v Hu.out Hv.out W).mono fun e w' ⟨he, hw⟩ => ⟨he, hI.1.mono hw, hI.2.1.later hw, hI.2.2.1.later hw, hI.2.2.2.1.below hw hI.2.2.2.1.lt, hI.2.2.2.2.1.below hw hI.2.2.2.2.1.lt, hI.2.2.2.2.2.trans (hw.mono hI.2.2.2.2.2.size)⟩
          obtain ⟨R, hR⟩ : ∃ R, R = cmp u v := ⟨_, rfl⟩
          rw [← hR] at F7 F8
          have G7 : Hid (∀ W, Inv w ap n gu gv w.heap.size z u v W → Calls Try.prog 7 #[.slice (some ⟨gu, 0, none⟩) (n + 17) cu, .slice (some ⟨gv, 0, none⟩) (n + 17) cv] W fun e w' => e = .returned (.int .i64 R) ∧ Inv w ap n gu gv w.heap.size z u v w') := F7
          have G8 : Hid (∀ W, Inv w ap n gu gv w.heap.size z u v W → Calls Try.prog 8 #[.agg (arrOf u), .agg (arrOf v)] W fun e w' => e = .returned (.int .i64 R) ∧ Inv w ap n gu gv w.heap.size z u v w') := F8
          clear F7 F8 hR
          refine region_class (C := Inv w ap n gu gv w.heap.size z u v) (by kernel_rfl) (by kernel_rfl) IQ.drew ?_
          refine q_move rfl (.tmp 9) rfl ?_
          refine q_move rfl (.tmp 10) rfl ?_
          refine wpQuiet_step fun K hK => ?_
          go_simp
          refine ⟨.int .i64 R, G7.out, hK _ ?_⟩
          clear hK K
          refine q_load_row rfl 23 (.tmp 4) rfl w.heap.size rfl 23 (arrOf u) (0, 0) _ (fun W hI => hI.2.2.2.1) Try.underlying23 rfl HU ?_
          refine q_load_row rfl 23 (.tmp 5) rfl (w.heap.size + 1) rfl 23 (arrOf v) (0, 0) _ (fun W hI => hI.2.2.2.2.1) Try.underlying23 rfl HV ?_
          refine wpQuiet_step fun K hK => ?_
          go_simp
          refine ⟨.int .i64 R, G8.out, hK _ ?_⟩
          clear hK K
          refine wpQuiet_step fun K hK => ?_
          go_simp
          refine ⟨.bool true, fun _ _ => rfl, hK _ ?_⟩
          clear hK K
          refine q_assign rfl (.tmp 119) rfl ?_
          refine wpQuiet_nil ?_
          intro wz IZ
          go_wp2_with fail
          go_ret
          exact ⟨rfl, IZ.2.2.2.2.2⟩
end Go.Proofs.Qxb6623418a
