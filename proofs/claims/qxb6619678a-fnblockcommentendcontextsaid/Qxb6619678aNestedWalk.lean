/-
  The walk of the law 'FnBlockCommentEndNested' (function 5).
-/
import Derived.Test.Qxb6619678aClose
import Derived.WalkSpells
import Derived.OwnWalk
import Derived.Laws.CopyOwn
import Derived.Below
namespace Go.Proofs.Qxb6619678a
open Go.RowKit Go.WideShapes Scan
set_option linter.unusedVariables false

theorem Try.info5 : (Try.prog.info? 5).map (fun i => (i.zero, i.size, i.bytes)) = some (some (.int .u8 0), 1, 1) := by kernel_rfl
theorem Try.size5 : (Try.prog.info? 5).map (·.size) = some 1 := by kernel_rfl

theorem bytes11 (a0 : Option Addr) (len cap : Nat) (s : Int) (w : World) (h : len ≤ 65536) :
    Calls Try.prog 11 #[.slice a0 len cap, .int .i64 s] w fun e w' => e = .returned (.bool true) ∧ w = w' := by
  go_enter Try.func11, Try.ntmps11
  go_wp2
  go_ret
  exact ⟨rfl, rfl⟩

/-- A start or a length that the law passes over. -/
theorem nested_early (a0 : Option Addr) (len cap : Nat) (s : Int) (w : World) (hm : len ≤ maxLen) (hs : -9223372036854775808 ≤ s ∧ s ≤ 9223372036854775807) (h : 65536 < len ∨ (len ≤ 65536 ∧ (s < 0 ∨ (0 ≤ s ∧ (len : Int) - 2 < s)))) :
    Calls Try.prog 5 #[.slice a0 len cap, .int .i64 s] w fun e w' => e = .returned (.bool true) ∧ w = w' := by
  unfold maxLen at hm
  obtain ⟨hs1, hs2⟩ := hs
  rcases h with h | ⟨h, h' | ⟨h1, h2⟩⟩
  all_goals
    go_enter Try.func5, Try.ntmps5
    go_wp2
    all_goals
      go_ret
      exact ⟨rfl, rfl⟩

/-- No comment opens there. -/
theorem nested_no (b off len cap : Nat) (z : List Int) (s : Nat) (w : World) (hm : len ≤ 65536) (hs : s + 2 ≤ len) (c0 : w.cell? ⟨b, off + s, none⟩ = some (.int .u8 (z.getD s 0))) (c1 : w.cell? ⟨b, off + (s + 1), none⟩ = some (.int .u8 (z.getD (s + 1) 0)))
    (h : ¬ z[s]?.getD 0 = 47 ∨ (z[s]?.getD 0 = 47 ∧ ¬ z[s + 1]?.getD 0 = 42)) :
    Calls Try.prog 5 #[.slice (some ⟨b, off, none⟩) len cap, .int .i64 s] w fun e w' => e = .returned (.bool true) ∧ w = w' := by
  rcases h with h | ⟨h, h'⟩
  all_goals
    go_enter Try.func5, Try.ntmps5
    go_wp2
    go_ret
    exact ⟨rfl, rfl⟩

/-- What 'make' has laid: a row of so many cells. -/
theorem made_row {w w1 : World} {n : Nat} {xs : List Value} (h : w1.ownsRow w.heap.size 5 1 (.slice (some ⟨w.heap.size, 0, none⟩) n n) n xs) : ∃ L : List Value, L.length = n ∧ w1.heap[w.heap.size]? = some (.cells L.toArray 5 (0, 0)) := by
  rcases h.2 with ⟨h', _⟩ | ⟨g, cap, cur, h', _, hg, _, _, hs, _⟩
  · simp at h'
  · simp only [Value.slice.injEq, Option.some.injEq, Addr.mk.injEq, and_true, true_and] at h'
    obtain ⟨rfl, rfl⟩ := h'
    exact ⟨cur.toList, by simpa using hs, by simpa using hg⟩
theorem splice_all {α : Type} (L X : List α) (h : L.length = X.length) : splice L 0 X = X := by
  unfold splice; rw [List.drop_of_length_le (by omega)]; simp
theorem copied_cells {w2 : World} {g len : Nat} {L X : List Value} {z : List Int} (HG : Hid (w2.heap[g]? = some (.cells (splice L 0 X).toArray 5 (0, 0)))) (HX : Hid (X = z.map (Value.int .u8))) (HZ : Hid (z.length = len)) (hL : L.length = len) :
    ∀ k, k < len → w2.cell? ⟨g, 0 + k, none⟩ = some (.int .u8 (z.getD k 0)) := by
  intro k hk
  have hz := HZ.out
  have hX := HX.out
  have hg := HG.out
  rw [splice_all L X (by rw [hX]; simp; omega), hX] at hg
  rw [Nat.zero_add, cell_of_row w2 g k _ 5 (0, 0) hg]
  simp [List.getElem?_eq_getElem (show k < z.length by omega)]

set_option maxHeartbeats 1000000 in
theorem nested_main (b off len cap : Nat) (z : List Int) (s : Nat) (w : World) (hz : z.length = len) (hm : len ≤ 65536) (hs : s + 2 ≤ len) (hb : b < w.heap.size)
    (hc : ∀ k, k < len → w.cell? ⟨b, off + k, none⟩ = some (.int .u8 (z.getD k 0))) (h0 : z[s]?.getD 0 = 47) (h1 : z[s + 1]?.getD 0 = 42) :
    Calls Try.prog 5 #[.slice (some ⟨b, off, none⟩) len cap, .int .i64 s] w fun e w' => e = .returned (.bool true) ∧ Below w.heap.size w w' := by
  obtain ⟨i0, hi, hz0, hz1, hz2⟩ := info_parts Try.info5
  have q22 : ∀ (w : World) (a : Option Addr) (n c n' c' : Nat), (binOp .neq 22 (.slice a n c) (.slice none n' c')).run Try.prog w = .ok (.bool (!a.isNone)) w := fun w a n c n' c' => run_neq_slice_nil_any w _ _ a n c n' c' Try.underlying22
  have c0 := hc s (by omega)
  have c1 := hc (s + 1) (by omega)
  have HC : Hid (∀ k, k < len → w.cell? ⟨b, off + k, none⟩ = some (.int .u8 (z.getD k 0))) := hc
  have HZ : Hid (z.length = len) := hz
  have HO : Hid (scanAt z s 0 = scanAt z (s + 2) 1) := scanAt_open z s 0 (by omega) (by rw [List.getD_eq_getElem?_getD]; exact h0) (by rw [List.getD_eq_getElem?_getD]; exact h1)
  obtain ⟨X, hX⟩ : ∃ X, X = z.map (Value.int .u8) := ⟨_, rfl⟩
  have hXl : X.length = len := by rw [hX]; simpa using hz
  have HX : Hid (X = z.map (Value.int .u8)) := hX
  have HXl : Hid (X.length = len) := hXl
  have HX1 : Hid (∀ v ∈ X, v.oneCell' = true) := by
    intro v hv; rw [hX] at hv; simp at hv; obtain ⟨n, _, rfl⟩ := hv; rfl
  have HXc : Hid (∀ j v, X[j]? = some v → w.cell? ⟨b, off + j, none⟩ = some v) := by
    intro j v hv
    have hj : j < len := by have := (List.getElem?_eq_some_iff.1 hv).1; omega
    rw [hX] at hv
    rw [hc j hj]
    simp [List.getElem?_eq_getElem (show j < z.length by omega)] at hv ⊢
    exact hv
  clear hc hz hX hXl
  go_enter Try.func5, Try.ntmps5
  go_wp2_with (first | (go_at_call 11; refine (bytes11 _ _ _ _ _ hm).mono ?_; rintro e w' ⟨rfl, rfl⟩) | (at_make; go_must (refine wpList_make_full _ rfl (.tmp 42) (.tmp 42) 22 rfl w.heap.size 5 i0 (.int .u8 0) 1 Try.underlying22 hi hz0 hz1 .i64 .i64 len len len rfl rfl rfl rfl (by rw [hz2]; omega) (by unfold maxLen; omega) (Nat.le_refl _) ?_; intro w1 hown1 hg1; obtain ⟨L, hLl, hL⟩ := made_row hown1; have HLl : Hid (L.length = len) := hLl; have HL : Hid (w1.heap[w.heap.size]? = some (.cells L.toArray 5 (0, 0))) := hL; have B1 : Below w.heap.size w w1 := (Below.refl _ _).grown hg1 (Nat.le_refl _) (by simp); clear hLl hL hown1 hg1)) | (refine wpList_copy_splice rfl (.tmp 44) (.tmp 45) 22 22 rfl 5 Try.underlying22 Try.size5 (some ⟨w.heap.size, 0, none⟩) (some ⟨b, off, none⟩) len len len cap rfl rfl w.heap.size 0 L 5 HL.out X (by rw [HXl.out]; simp) (fun _ => ⟨rfl, ⟨b, off, none⟩, rfl, fun j v hv => by rw [add_plain, B1.cell (by exact hb)]; exact HXc.out j v hv⟩) (by rw [HXl.out, HLl.out]; omega) HX1.out w.heap.size w B1 (Nat.le_refl _) ?_; intro w2 HG2 B2; have HK2 : Hid (∀ k, k < len → w2.cell? ⟨w.heap.size, 0 + k, none⟩ = some (.int .u8 (z.getD k 0))) := copied_cells HG2 HX HZ HLl.out; clear HG2 HL HLl B1))
  have C12 := zz_any w.heap.size 0 len len z s w2 HZ.out (by omega) (by omega) HK2.out
  have C13 := close_any w.heap.size 0 len len z w2 HZ.out (by omega) HK2.out _ (s + 2) rfl (by omega)
  rw [HO.out] at C12
  rw [show ((s + 2 : Nat) : Int) = (s : Int) + 2 from by omega] at C13
  cases hS : scanAt z (s + 2) 1 with
  | none =>
    rw [hS] at C12 C13
    have D12 : Hid (Calls Try.prog 12 #[.slice (some ⟨w.heap.size, 0, none⟩) len len, .int .i64 s] w2 fun e w' => e = .returned (.tuple #[.int .i64 0, .bool false]) ∧ w2 = w') := C12
    have D13 : Hid (Calls Try.prog 13 #[.slice (some ⟨w.heap.size, 0, none⟩) len len, .int .i64 ((s : Int) + 2)] w2 fun e w' => e = .returned (.tuple #[.int .i64 0, .bool false]) ∧ w2 = w') := C13
    clear C12 C13 hS HK2
    refine Calls.mono D12.out ?_
    rintro e w' ⟨rfl, rfl⟩
    go_wp2_with fail
    refine Calls.mono D13.out ?_
    rintro e w' ⟨rfl, rfl⟩
    go_wp2_with fail
    go_ret
    exact ⟨rfl, B2⟩
  | some j =>
    rw [hS] at C12 C13
    have D12 : Hid (Calls Try.prog 12 #[.slice (some ⟨w.heap.size, 0, none⟩) len len, .int .i64 s] w2 fun e w' => e = .returned (.tuple #[.int .i64 j, .bool true]) ∧ w2 = w') := C12
    have D13 : Hid (Calls Try.prog 13 #[.slice (some ⟨w.heap.size, 0, none⟩) len len, .int .i64 ((s : Int) + 2)] w2 fun e w' => e = .returned (.tuple #[.int .i64 j, .bool true]) ∧ w2 = w') := C13
    obtain ⟨e1, e2, e3, e4⟩ := scanAt_end z _ _ _ hS
    have g1 : s + 4 ≤ j := by omega
    have g2 : j ≤ len := by have := HZ.out; omega
    have g3 := HK2.out (j - 2) (by omega)
    have g4 := HK2.out (j - 1) (by omega)
    rw [e3] at g3
    rw [e4] at g4
    obtain ⟨q, rfl⟩ : ∃ q, j = q + 2 := ⟨j - 2, by omega⟩
    simp only [Nat.add_sub_cancel, show q + 2 - 1 = q + 1 from by omega, Nat.zero_add] at g3 g4
    clear C12 C13 hS HK2 e1 e2 e3 e4
    refine Calls.mono D12.out ?_
    rintro e w' ⟨rfl, rfl⟩
    go_wp2_with fail
    refine Calls.mono D13.out ?_
    rintro e w' ⟨rfl, rfl⟩
    go_wp2_with fail
    go_ret
    exact ⟨rfl, B2⟩
end Go.Proofs.Qxb6619678a
