/-
  The walk of 'ZZMakeSnapshotList' (function 11).
-/
import Derived.Test.Qxb6617417aMap
import Derived.Deep.RegionHeld3
namespace Go.Proofs.Qxb6617417a
open Go.RowKit Go.Maps
set_option linter.unusedVariables false
set_option maxRecDepth 100000

theorem run_makeMap_hint (n : Int) (w : World) : (Instr.makeMap 41 (some (.int .i64 n))).run Try.prog w = .ok (.map (some w.heap.size)) (w.alloc (.map #[] 0)) := by
  simp [Instr.makeMap, run_underlying Try.underlying41, asInt, asIntOf]

/-- The list's own struct. -/
def Lst (w : World) (L bm : Nat) (old new : Int) : Prop := w.heap[L]? = some (.cells #[.map (some bm), .int .u64 old, .int .u64 new] 43 (0, 0))
/-- One snapshot held. -/
def Ent (w : World) (b : Nat) (r o n : Int) : Prop := w.heap[b]? = some (.cells #[.int .i64 r, .int .u64 o, .int .u64 n] 46 (0, 0))
/-- The elements of a slice of integers of kind q lie at its address. -/
def Row (q : IntKind) (w : World) (b o : Nat) (z : List Int) : Prop := ∀ k, k < z.length → w.cell? ⟨b, o + k, none⟩ = some (.int q (z.getD k 0))
/-- The keys of the first k entries lead to their blocks. -/
def fK (K : List Int) (base : Nat) : Nat → Int → Option Nat
  | 0 => fun _ => none
  | k + 1 => upd (fK K base k) (K.getD k 0) (some (base + k))

section
variable {w w' : World} {L bm b : Nat} {old new r o n : Int}
theorem Lst.cells (h : Lst w L bm old new) : w.cell? ⟨L, 0, none⟩ = some (.map (some bm)) ∧ w.cell? ⟨L, 1, none⟩ = some (.int .u64 old) ∧ w.cell? ⟨L, 2, none⟩ = some (.int .u64 new) := by
  refine ⟨?_, ?_, ?_⟩ <;> (rw [cell_of_row w L _ _ 43 (0, 0) h]; rfl)
theorem Ent.cells (h : Ent w b r o n) : w.cell? ⟨b, 0, none⟩ = some (.int .i64 r) ∧ w.cell? ⟨b, 1, none⟩ = some (.int .u64 o) ∧ w.cell? ⟨b, 2, none⟩ = some (.int .u64 n) := by
  refine ⟨?_, ?_, ?_⟩ <;> (rw [cell_of_row w b _ _ 46 (0, 0) h]; rfl)
theorem Lst.kept {row : Option Nat} (h : Lst w L bm old new) (hg : w.grownBy w' row) (hne : some L ≠ row) : Lst w' L bm old new :=
  (hg.block L (Array.getElem?_eq_some_iff.1 h).1 hne).trans h
theorem Ent.kept {row : Option Nat} (h : Ent w b r o n) (hg : w.grownBy w' row) (hne : some b ≠ row) : Ent w' b r o n :=
  (hg.block b (Array.getElem?_eq_some_iff.1 h).1 hne).trans h
theorem Row.below {q : IntKind} {b o : Nat} {z : List Int} (h : Row q w b o z) (hb : Below w.heap.size w w') : Row q w' b o z := fun k hk => by
  have hc := h k hk
  rw [hb.cell (World.block_lt_of_cell? w _ hc)]
  exact hc
end

/-- What the loop has made after k rounds. -/
def Made (w : World) (K R O N : List Int) (old new : Int) (k : Nat) (wr : World) : Prop :=
  wr.heap.size = w.heap.size + 2 + k ∧ Lst wr (w.heap.size + 1) w.heap.size old new ∧ MapIs wr w.heap.size k (fK K (w.heap.size + 2) k) k ∧
  (∀ j, j < k → Ent wr (w.heap.size + 2 + j) (R.getD j 0) (O.getD j 0) (N.getD j 0)) ∧ Below w.heap.size w wr

theorem Made.start (w : World) (K R O N : List Int) (old new : Int) : Made w K R O N old new 0 ((w.alloc (.map #[] 0)).alloc (.cells #[.map (some w.heap.size), .int .u64 old, .int .u64 new] 43)) := by
  refine ⟨by simp, ?_, (MapIs.made w).alloc _, fun j hj => by omega, ((Below.refl _ _).alloc (Nat.le_refl _) _).alloc (by simp) _⟩
  have := heap_alloc_new (w.alloc (.map #[] 0)) (.cells #[.map (some w.heap.size), .int .u64 old, .int .u64 new] 43)
  rw [World.size_alloc] at this
  exact this
theorem fK_none (K : List Int) (base : Nat) (x : Int) : ∀ k, (∀ i, i < k → K.getD i 0 ≠ x) → fK K base k x = none
  | 0, _ => rfl
  | k + 1, h => by
    rw [fK, upd_other _ _ _ _ (fun e => h k (by omega) e.symm)]
    exact fK_none K base x k (fun i hi => h i (by omega))
theorem fK_some (K : List Int) (base : Nat) (n : Nat) (hap : ∀ i j, i < j → j < n → K.getD i 0 ≠ K.getD j 0) : ∀ k, k ≤ n → ∀ i, i < k → fK K base k (K.getD i 0) = some (base + i)
  | 0, _, i, h => by omega
  | k + 1, hk, i, h => by
    rw [fK]
    by_cases e : i = k
    · subst e; rw [upd_same]
    · rw [upd_other _ _ _ _ (hap i k (by omega) (by omega))]
      exact fK_some K base n hap k (by omega) i (by omega)
theorem MapIs.cell_ne {w : World} {bm n c : Nat} {f : Int → Option Nat} (h : MapIs w bm n f c) {a : Addr} {v : Value} (hc : w.cell? a = some v) : a.block ≠ bm := by
  obtain ⟨D, ⟨es, clock, hb, _⟩, _⟩ := h
  intro e
  simp [World.cell?, e, hb] at hc
theorem Made.step {w wr : World} {K R O N : List Int} {old new kk rr oo nn : Int} {k n : Nat} (M : Made w K R O N old new k wr) (hk : k < maxLen) (hlt : k < n) (hwf : ∀ k, k < n → KeyOk (K.getD k 0)) (hap : ∀ i j, i < j → j < n → K.getD i 0 ≠ K.getD j 0)
    (ekk : kk = K.getD k 0) (err : rr = R.getD k 0) (eoo : oo = O.getD k 0) (enn : nn = N.getD k 0) :
    ∃ w1, (Instr.mapUpdate 41 (.map (some w.heap.size)) (.int .u64 kk) (.pointer (some ⟨wr.heap.size, 0, none⟩))).run Try.prog (wr.alloc (.cells #[.int .i64 rr, .int .u64 oo, .int .u64 nn] 46)).drew = .ok () w1 ∧
      (∀ a v, wr.cell? a = some v → w1.cell? a = some v) ∧ Made w K R O N old new (k + 1) w1 := by
  obtain ⟨hsz, hl, hm, he, hb⟩ := M
  obtain ⟨w1, hrun, hm1, ht⟩ := (hm.alloc (.cells #[.int .i64 rr, .int .u64 oo, .int .u64 nn] 46)).drew.store hk (show KeyOk kk by rw [ekk]; exact hwf k hlt) wr.heap.size
  have hg := ht.grown
  have hga : wr.grownBy (wr.alloc (.cells #[.int .i64 rr, .int .u64 oo, .int .u64 nn] 46)).drew none := ⟨rfl, rfl, rfl, by simp [World.drew], fun k hk _ => Below.heap_alloc wr _ k hk⟩
  have hnew : Ent (wr.alloc (.cells #[.int .i64 rr, .int .u64 oo, .int .u64 nn] 46)).drew wr.heap.size rr oo nn := heap_alloc_new wr _
  have hno : fK K (w.heap.size + 2) k kk = none := by rw [ekk]; exact fK_none K _ _ k (fun i hi => hap i k hi hlt)
  refine ⟨w1, hrun, fun a v hc => ?_, ?_, ?_, ?_, ?_, ?_⟩
  · have h1 := hga.cell hc (by simp)
    exact hg.cell h1 (fun e => (hm.alloc _).drew.cell_ne h1 (by simpa using e))
  · obtain ⟨es, cl, es', cl', _, hw1⟩ := ht
    rw [hw1]
    simp [ChangeMaps.setBlock, World.drew]
    omega
  · exact (hl.kept hga (by simp)).kept hg (by simp)
  · have e1 : fK K (w.heap.size + 2) (k + 1) = upd (fK K (w.heap.size + 2) k) kk (some wr.heap.size) := by rw [fK, ← ekk, hsz]
    rw [e1]
    rw [hno] at hm1
    exact hm1
  · intro j hj
    by_cases e : j = k
    · subst e
      rw [← err, ← eoo, ← enn, ← hsz]
      exact hnew.kept hg (by simp; omega)
    · exact ((he j (by omega)).kept hga (by simp)).kept hg (by simp; omega)
  · exact ((hb.alloc hb.size _).drew).grown hg (by simp [World.drew]; have := hb.size; omega) (by intro k hk; simp at hk; omega)

set_option maxHeartbeats 2000000 in
theorem make_any (b0 o0 c0 b1 o1 c1 b2 o2 c2 b3 o3 c3 n : Nat) (K R O N : List Int) (old new : Int) (w : World) (hK : K.length = n) (hR : R.length = n) (hO : O.length = n) (hN : N.length = n) (hn : n ≤ 1099511627776)
    (rK : Row .u64 w b0 o0 K) (rR : Row .i64 w b1 o1 R) (rO : Row .u64 w b2 o2 O) (rN : Row .u64 w b3 o3 N) (hwf : ∀ k, k < n → KeyOk (K.getD k 0)) (hap : ∀ i j, i < j → j < n → K.getD i 0 ≠ K.getD j 0) :
    Calls Try.prog 11 #[.slice (some ⟨b0, o0, none⟩) n c0, .slice (some ⟨b1, o1, none⟩) n c1, .slice (some ⟨b2, o2, none⟩) n c2, .slice (some ⟨b3, o3, none⟩) n c3, .int .u64 old, .int .u64 new] w
      fun e w' => e = .returned (.pointer (some ⟨w.heap.size + 1, 0, none⟩)) ∧ Made w K R O N old new n w' := by
  have hmm := run_makeMap_hint
  have HK : Hid (K.length = n) := hK
  have HR : Hid (R.length = n) := hR
  have HO : Hid (O.length = n) := hO
  have HN : Hid (N.length = n) := hN
  have HW : Hid (∀ k, k < n → KeyOk (K.getD k 0)) := hwf
  have HA : Hid (∀ i j, i < j → j < n → K.getD i 0 ≠ K.getD j 0) := hap
  clear hK hR hO hN hwf hap
  go_enter Try.func11, Try.ntmps11
  go_wp2
  clear hmm
  go_loopw [14] (fun i wr => ∃ k : Nat, k ≤ n ∧ i = .int .i64 k ∧ Made w K R O N old new k wr) (fun i _ => n - (intOf i).toNat)
  case atStart => exact ⟨0, Nat.zero_le _, rfl, Made.start w K R O N old new⟩
  case round =>
    obtain ⟨k, hk, rfl, M⟩ := hrel
    by_cases hlt : k < n
    · obtain ⟨kk, ekk⟩ : ∃ x, x = K.getD k 0 := ⟨_, rfl⟩
      obtain ⟨rr, err⟩ : ∃ x, x = R.getD k 0 := ⟨_, rfl⟩
      obtain ⟨oo, eoo⟩ : ∃ x, x = O.getD k 0 := ⟨_, rfl⟩
      obtain ⟨nn, enn⟩ : ∃ x, x = N.getD k 0 := ⟨_, rfl⟩
      have ck : wr.cell? ⟨b0, o0 + k, none⟩ = some (.int .u64 kk) := by rw [ekk]; exact (rK.below M.2.2.2.2) k (by rw [HK.out]; exact hlt)
      have cr : wr.cell? ⟨b1, o1 + k, none⟩ = some (.int .i64 rr) := by rw [err]; exact (rR.below M.2.2.2.2) k (by rw [HR.out]; exact hlt)
      have co : wr.cell? ⟨b2, o2 + k, none⟩ = some (.int .u64 oo) := by rw [eoo]; exact (rO.below M.2.2.2.2) k (by rw [HO.out]; exact hlt)
      have cn : wr.cell? ⟨b3, o3 + k, none⟩ = some (.int .u64 nn) := by rw [enn]; exact (rN.below M.2.2.2.2) k (by rw [HN.out]; exact hlt)
      have cl := M.2.1.cells.1
      obtain ⟨w1, hup, R1⟩ := Made.step M (show k < maxLen by unfold maxLen; omega) hlt HW.out HA.out ekk err eoo enn
      have hS1 : w1.cell? ⟨w.heap.size + 1, 0, none⟩ = some (.map (some w.heap.size)) ∧ w1.cell? ⟨b0, o0 + k, none⟩ = some (.int .u64 kk) ∧ w1.cell? ⟨b1, o1 + k, none⟩ = some (.int .i64 rr) ∧ w1.cell? ⟨b2, o2 + k, none⟩ = some (.int .u64 oo) ∧ w1.cell? ⟨b3, o3 + k, none⟩ = some (.int .u64 nn) :=
        ⟨R1.1 _ _ cl, R1.1 _ _ ck, R1.1 _ _ cr, R1.1 _ _ co, R1.1 _ _ cn⟩
      have R2 := R1.2
      have HS1 : Hid (w1.cell? ⟨w.heap.size + 1, 0, none⟩ = some (.map (some w.heap.size)) ∧ w1.cell? ⟨b0, o0 + k, none⟩ = some (.int .u64 kk) ∧ w1.cell? ⟨b1, o1 + k, none⟩ = some (.int .i64 rr) ∧ w1.cell? ⟨b2, o2 + k, none⟩ = some (.int .u64 oo) ∧ w1.cell? ⟨b3, o3 + k, none⟩ = some (.int .u64 nn)) := hS1
      clear ekk err eoo enn R1 hS1 M
      have i1 : (k : Int) < (n : Int) := by omega
      go_wp2_with fail
      go_region_held3 (fun w' => w'.cell? ⟨w.heap.size + 1, 0, none⟩ = some (.map (some w.heap.size)) ∧ w'.cell? ⟨b0, o0 + k, none⟩ = some (.int .u64 kk) ∧ w'.cell? ⟨b1, o1 + k, none⟩ = some (.int .i64 rr) ∧ w'.cell? ⟨b2, o2 + k, none⟩ = some (.int .u64 oo) ∧ w'.cell? ⟨b3, o3 + k, none⟩ = some (.int .u64 nn)) (first | exact HS1.out | go_keep) (fail)
      go_wp2_with fail
      go_roundw
      case rel => exact ⟨k + 1, by omega, by go_num, R2⟩
      case measure => simp [intOf]; omega
    · obtain rfl : k = n := by omega
      go_wp2_with fail
      go_ret
      exact ⟨rfl, M⟩
end Go.Proofs.Qxb6617417a
