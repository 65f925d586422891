/-
  The walk of 'zzCompareArrB1' (function 8).
-/
import Derived.Test.Qxb6623418aRows
import Derived.Test.Qxb6623418aCmp
import Derived.WalkKit
import Derived.ProofKit
import Derived.WalkSpells
import Derived.Below
import Derived.WalkSmall
import Derived.Deep.QuietTactic
import Derived.BigQuiet
namespace Go.Proofs.Qxb6623418a
open Go.RowKit Cmp
set_option linter.unusedVariables false

/-- The bytes as cells. -/
def cellsOf (z : List Int) : List Value := z.map (Value.int .u8)
theorem cellsOf_length (z : List Int) : (cellsOf z).length = z.length := by simp [cellsOf]
theorem cellsOf_app (a b : List Int) : cellsOf (a ++ b) = cellsOf a ++ cellsOf b := by simp [cellsOf]
theorem cellsOf_one (z : List Int) : ∀ u ∈ cellsOf z, u.oneCell' = true := ints_oneCell .u8 z

/-- The array's value, as the program holds it. -/
def arrOf (z : List Int) : Array Value := (cellsOf z).toArray

/-- A box that holds these bytes, of type t. -/
def Box (t : TypeId) (w : World) (g : Nat) (z : List Int) : Prop := w.heap[g]? = some (.cells (arrOf z) t (0, 0))
theorem Box.below {t : TypeId} {w w' : World} {B g : Nat} {z : List Int} (h : Box t w g z) (hb : Below B w w') (hg : g < B) : Box t w' g z := (hb.block g hg).trans h
theorem Box.cell {t : TypeId} {w : World} {g : Nat} {z : List Int} (h : Box t w g z) (k : Nat) (hk : k < z.length) : w.cell? ⟨g, k, none⟩ = some (.int .u8 (z.getD k 0)) := by
  rw [cell_of_row w g k _ t (0, 0) h]
  simp [arrOf, cellsOf, hk]
theorem Box.lt {t : TypeId} {w : World} {g : Nat} {z : List Int} (h : Box t w g z) : g < w.heap.size := (Array.getElem?_eq_some_iff.1 h).1
theorem below_drewN {B : Nat} {a w : World} (h : Below B a w) (n : Nat) : Below B a (w.drewN n) := ⟨h.os, h.tape, h.output, h.size, h.block⟩
theorem Box.drewN {t : TypeId} {w : World} {g : Nat} {z : List Int} (h : Box t w g z) (n : Nat) : Box t (w.drewN n) g z := h

section
variable {R : Int} {x y : List Int} {k m : Nat}
theorem st_less (HR : Hid (R = cmp (x.drop k) (y.drop k))) (hx : k < x.length) (hy : k < y.length) (h : x[k]?.getD 0 < y[k]?.getD 0) : R = -1 :=
  HR.out.trans (cmp_less x y k hx hy (by simpa only [List.getD_eq_getElem?_getD] using h))
theorem st_more (HR : Hid (R = cmp (x.drop k) (y.drop k))) (hx : k < x.length) (hy : k < y.length) (h : y[k]?.getD 0 < x[k]?.getD 0) : R = 1 :=
  HR.out.trans (cmp_more x y k hx hy (by simpa only [List.getD_eq_getElem?_getD] using h))
theorem st_step (HR : Hid (R = cmp (x.drop k) (y.drop k))) (hx : k < x.length) (hy : k < y.length) (h1 : ¬ x[k]?.getD 0 < y[k]?.getD 0) (h2 : ¬ y[k]?.getD 0 < x[k]?.getD 0) : Hid (R = cmp (x.drop (k + 1)) (y.drop (k + 1))) :=
  HR.out.trans (cmp_step x y k hx hy (by simpa only [List.getD_eq_getElem?_getD] using h1) (by simpa only [List.getD_eq_getElem?_getD] using h2))
end
theorem ret_num {a b : Int} (h : b = a) : Ending.returned (.int .i64 a) = .returned (.int .i64 b) := by rw [h]

set_option maxHeartbeats 1000000 in
theorem arr_any (u v : List Int) (hu : u.length = 16) (hv : v.length = 16) (w : World) :
    Calls Try.prog 8 #[.agg (arrOf u), .agg (arrOf v)] w fun e w' => e = .returned (.int .i64 (cmp u v)) ∧ Below w.heap.size w w' := by
  obtain ⟨R, hR⟩ : ∃ R, R = cmp u v := ⟨_, rfl⟩
  rw [← hR]
  have HR : Hid (R = cmp (u.drop 0) (v.drop 0)) := by rw [List.drop_zero, List.drop_zero]; exact hR
  have HU : Hid (u.length = 16) := hu
  have HV : Hid (v.length = 16) := hv
  clear hR hu hv
  go_enter Try.func8, Try.ntmps8
  go_wp2
  go_loopw [5] (fun i wr => ∃ k : Nat, k ≤ 16 ∧ i = .int .i64 k ∧ Box 23 wr w.heap.size u ∧ Box 23 wr (w.heap.size + 1) v ∧ Below w.heap.size w wr ∧ Hid (R = cmp (u.drop k) (v.drop k))) (fun i _ => 16 - (intOf i).toNat)
  case atStart => exact ⟨0, by omega, rfl, heap_alloc2_old _ _ _, heap_alloc2_new _ _ _, ((Below.refl _ _).alloc (Nat.le_refl _) _).alloc (by simp) _, HR⟩
  case round =>
    obtain ⟨k, hk, rfl, hbu, hbv, hbl, HK⟩ := hrel
    clear HR
    by_cases hlt : k < 16
    · have cu := hbu.cell k (by rw [HU.out]; exact hlt)
      have cv := hbv.cell k (by rw [HV.out]; exact hlt)
      by_cases h1 : u[k]?.getD 0 < v[k]?.getD 0
      · go_wp2
        go_quiet (fail)
        go_wp2
        go_ret
        exact ⟨ret_num (st_less HK (by rw [HU.out]; exact hlt) (by rw [HV.out]; exact hlt) h1), below_drewN hbl _⟩
      · by_cases h2 : v[k]?.getD 0 < u[k]?.getD 0
        · go_wp2
          go_quiet (fail)
          go_wp2
          go_quiet (fail)
          go_wp2
          go_ret
          exact ⟨ret_num (st_more HK (by rw [HU.out]; exact hlt) (by rw [HV.out]; exact hlt) h2), below_drewN (below_drewN hbl _) _⟩
        · have N := st_step HK (by rw [HU.out]; exact hlt) (by rw [HV.out]; exact hlt) h1 h2
          go_wp2
          go_quiet (fail)
          go_wp2
          go_quiet (fail)
          go_wp2
          go_roundw
          case rel => exact ⟨k + 1, by omega, by go_num, hbu.drewN _, hbv.drewN _, below_drewN hbl _, N⟩
          case measure => simp [intOf]; omega
    · go_wp2
      go_ret
      exact ⟨ret_num (HK.out.trans (cmp_end u v k (by rw [HU.out]; omega) (by rw [HV.out]; omega))), hbl⟩
end Go.Proofs.Qxb6623418a
