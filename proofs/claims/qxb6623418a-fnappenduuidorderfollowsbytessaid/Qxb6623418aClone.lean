/-
  The walk of 'zzCloneB1' (function 5).
-/
import Derived.Test.Qxb6623418aCmpB
import Derived.OwnWalk
import Derived.Lib.SliceRun
namespace Go.Proofs.Qxb6623418a
open Go.RowKit Go.WideShapes Cmp
set_option linter.unusedVariables false

theorem Try.info5 : (Try.prog.info? 5).map (fun i => (i.zero, i.size, i.bytes)) = some (some (.int .u8 0), 1, 1) := by kernel_rfl

/-- nil stays nil. -/
theorem clone_nil (w : World) : Calls Try.prog 5 #[.slice none 0 0] w fun e w' => e = .returned (.slice none 0 0) ∧ w = w' := by
  have q22 : ∀ (w : World) (a : Option Addr) (n c n' c' : Nat), (binOp .eql 22 (.slice a n c) (.slice none n' c')).run Try.prog w = .ok (.bool a.isNone) w := fun w a n c n' c' => Lib.run_eql_slice_nil w _ _ a n c n' c' Try.underlying22
  go_enter Try.func5, Try.ntmps5
  go_wp2
  go_ret
  exact ⟨rfl, rfl⟩

/-- A row filled up to k. -/
def Filled (w : World) (g n k : Nat) (z : List Int) : Prop := ∃ L : List Value, L.length = n ∧ (∀ j, j < k → L[j]? = (cellsOf z)[j]?) ∧ w.heap[g]? = some (.cells L.toArray 5 (0, 0))
theorem Filled.made {w w1 : World} {n : Nat} {xs : List Value} {z : List Int} (h : w1.ownsRow w.heap.size 5 1 (.slice (some ⟨w.heap.size, 0, none⟩) n n) n xs) : Filled w1 w.heap.size n 0 z := by
  rcases h.2 with ⟨h', _⟩ | ⟨g, cap, cur, h', _, hg, _, _, hs, _⟩
  · simp at h'
  · simp only [Value.slice.injEq, Option.some.injEq, Addr.mk.injEq, and_true, true_and] at h'
    obtain ⟨rfl, rfl⟩ := h'
    exact ⟨cur.toList, by simpa using hs, fun j hj => by omega, by simpa using hg⟩
theorem Filled.cell {w : World} {g n k : Nat} {z : List Int} (h : Filled w g n k z) (i : Nat) (hi : i < n) : ∃ v, w.cell? ⟨g, i, none⟩ = some v := by
  obtain ⟨L, hl, _, hg⟩ := h
  exact ⟨L[i]'(by omega), by rw [cell_of_row w g i _ 5 (0, 0) hg]; simp⟩
theorem Filled.free {w : World} {g n k : Nat} {z : List Int} (h : Filled w g n k z) (i : Nat) : w.frozen? ⟨g, i, none⟩ = false := by
  obtain ⟨L, hl, _, hg⟩ := h
  exact frozen_of_row w g i _ 5 hg
theorem Filled.store {w : World} {g n k : Nat} {z : List Int} (h : Filled w g n k z) (hk : k < n) (hz : z.length = n) {v : Value} (hv : v = .int .u8 (z.getD k 0)) : Filled (w.setCell ⟨g, k, none⟩ v) g n (k + 1) z := by
  obtain ⟨L, hl, hj, hg⟩ := h
  refine ⟨L.set k v, by simpa using hl, fun j hjk => ?_, by rw [heap_setCell_same w g k _ 5 v hg]; simp⟩
  by_cases e : j = k
  · subst e
    rw [List.getElem?_set_self (by omega), hv]
    simp [cellsOf, hz, hk]
  · rw [List.getElem?_set_ne (by omega)]
    exact hj j (by omega)
theorem Filled.whole {w : World} {g n : Nat} {z : List Int} (h : Filled w g n n z) (hz : z.length = n) : Box 5 w g z := by
  obtain ⟨L, hl, hj, hg⟩ := h
  have e : L = cellsOf z := by
    apply List.ext_getElem?
    intro j
    by_cases h : j < n
    · exact hj j h
    · rw [List.getElem?_eq_none (by omega), List.getElem?_eq_none (by rw [cellsOf_length]; omega)]
  unfold Box arrOf
  rw [hg, e]

set_option maxHeartbeats 1000000 in
theorem clone_some (ad : Addr) (n c : Nat) (z : List Int) (w : World) (hz : z.length = n) (hn : n ≤ 1099511627776) (hs : 0 < n → ad.spot = none) (hh : Holds w ad z) :
    Calls Try.prog 5 #[.slice (some ad) n c] w fun e w' => e = .returned (.slice (some ⟨w.heap.size, 0, none⟩) n n) ∧ Box 5 w' w.heap.size z ∧ Below w.heap.size w w' := by
  obtain ⟨i0, hi, hz0, hz1, hz2⟩ := info_parts Try.info5
  have q22 : ∀ (w : World) (a : Option Addr) (n c n' c' : Nat), (binOp .eql 22 (.slice a n c) (.slice none n' c')).run Try.prog w = .ok (.bool a.isNone) w := fun w a n c n' c' => Lib.run_eql_slice_nil w _ _ a n c n' c' Try.underlying22
  have HZ : Hid (z.length = n) := hz
  have HS : Hid (0 < n → ad.spot = none) := hs
  clear hz hs
  obtain ⟨b, off, spot⟩ := ad
  go_enter Try.func5, Try.ntmps5
  go_wp2_with (at_make; go_must (refine wpList_make_full _ rfl (.tmp 8) (.tmp 8) 22 rfl w.heap.size 5 i0 (.int .u8 0) 1 Try.underlying22 hi hz0 hz1 .i64 .i64 n n n rfl rfl rfl rfl (by rw [hz2]; omega) (by unfold maxLen; omega) (Nat.le_refl _) ?_; intro w1 hown1 hg1; have F1 : Filled w1 w.heap.size n 0 z := Filled.made hown1; have B1 : Below w.heap.size w w1 := (Below.refl _ _).grown hg1 (Nat.le_refl _) (by simp); clear hown1 hg1))
  go_loopw [4] (fun i wr => ∃ k : Nat, k ≤ n ∧ i = .int .i64 k ∧ Filled wr w.heap.size n k z ∧ Below w.heap.size w wr) (fun i _ => n - (intOf i).toNat)
  case atStart => exact ⟨0, by omega, rfl, F1, B1⟩
  case round =>
    obtain ⟨k, hk, rfl, FR, BR⟩ := hrel
    clear F1 B1
    by_cases hlt : k < n
    · obtain rfl : spot = none := HS.out (by omega)
      have c0 := hh k (by rw [HZ.out]; exact hlt)
      have c1 : wr.cell? ⟨b, off + k, none⟩ = some (.int .u8 (z.getD k 0)) := (BR.cell (World.block_lt_of_cell? w _ c0)).trans c0
      obtain ⟨v0, c2⟩ := FR.cell k hlt
      have c3 := FR.free k
      clear c0
      go_wp2
      go_roundw
      case rel => exact ⟨k + 1, by omega, by go_num, FR.store hlt HZ.out (by simp), BR.setCell (Nat.le_refl _) _⟩
      case measure => simp [intOf]; omega
    · obtain rfl : k = n := by omega
      go_wp2
      go_ret
      exact ⟨rfl, FR.whole HZ.out, BR⟩
end Go.Proofs.Qxb6623418a
