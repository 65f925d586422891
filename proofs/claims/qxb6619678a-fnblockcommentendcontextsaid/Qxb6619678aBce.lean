/-
  The walk of 'blockCommentEnd' (function 16): it computes 'scanAt'.
-/
import Derived.Test.Qxb6619678aRows
import Derived.Test.Qxb6619678aScan
import Derived.WalkKit
import Derived.ProofKit
namespace Go.Proofs.Qxb6619678a
open Go.RowKit Scan
set_option linter.unusedVariables false

/-- The two results: the end (0 where there is none), and whether there is one. -/
def eOf (o : Option Nat) : Int := ((o.getD 0 : Nat) : Int)
def kOf (o : Option Nat) : Bool := o.isSome
theorem ret_none {R : Option Nat} (h : R = none) : Ending.returned (.tuple #[.int .i64 0, .bool false]) = .returned (.tuple #[.int .i64 (eOf R), .bool (kOf R)]) := by rw [h]; rfl
theorem ret_some {R : Option Nat} {k : Nat} {n : Int} (h : R = some k) (hn : n = k) : Ending.returned (.tuple #[.int .i64 n, .bool true]) = .returned (.tuple #[.int .i64 (eOf R), .bool (kOf R)]) := by rw [h, hn]; rfl

/-! The ways of a round, in the walk's own spelling. -/
section
variable {R : Option Nat} {z : List Int} {k len : Nat} {d : Int}
theorem st_open (HK : Hid (R = scanAt z k d)) (HZ : Hid (z.length = len)) (hlt : k + 1 < len) (h0 : z[k]?.getD 0 = 47) (h1 : (z[k + 1]?.getD 0 == 42) = true) : Hid (R = scanAt z (k + 2) (d + 1)) :=
  HK.out.trans (scanAt_open z k d (by rw [HZ.out]; exact hlt) (by rw [List.getD_eq_getElem?_getD]; exact h0) (by rw [List.getD_eq_getElem?_getD]; simpa using h1))
theorem st_last (HK : Hid (R = scanAt z k d)) (HZ : Hid (z.length = len)) (hlt : k + 1 < len) (h0 : z[k]?.getD 0 = 42) (h1 : (z[k + 1]?.getD 0 == 47) = true) (hd : (d - 1 == 0) = true) : R = some (k + 2) :=
  HK.out.trans (scanAt_last z k d (by rw [HZ.out]; exact hlt) (by rw [List.getD_eq_getElem?_getD]; exact h0) (by rw [List.getD_eq_getElem?_getD]; simpa using h1) (by simp at hd; omega))
theorem st_close (HK : Hid (R = scanAt z k d)) (HZ : Hid (z.length = len)) (hlt : k + 1 < len) (h0 : z[k]?.getD 0 = 42) (h1 : (z[k + 1]?.getD 0 == 47) = true) (hd : (d - 1 == 0) = false) : Hid (R = scanAt z (k + 2) (d - 1)) :=
  HK.out.trans (scanAt_close z k d (by rw [HZ.out]; exact hlt) (by rw [List.getD_eq_getElem?_getD]; exact h0) (by rw [List.getD_eq_getElem?_getD]; simpa using h1) (by simp at hd; omega))
theorem st_skip (HK : Hid (R = scanAt z k d)) (HZ : Hid (z.length = len)) (hlt : k + 1 < len) (h : (z[k]?.getD 0 = 47 ∧ (z[k + 1]?.getD 0 == 42) = false) ∨ (z[k]?.getD 0 = 42 ∧ (z[k + 1]?.getD 0 == 47) = false) ∨ (¬ z[k]?.getD 0 = 47 ∧ ¬ z[k]?.getD 0 = 42)) : Hid (R = scanAt z (k + 1) d) :=
  HK.out.trans (scanAt_skip z k d (by rw [HZ.out]; exact hlt) (by simp only [List.getD_eq_getElem?_getD]; simp at h; omega) (by simp only [List.getD_eq_getElem?_getD]; simp at h; omega))
end

set_option maxHeartbeats 1000000 in
theorem bce_any (b off len cap : Nat) (z : List Int) (start : Nat) (w : World) (hz : z.length = len) (hm : len ≤ 1099511627776) (hs : start ≤ len)
    (hc : ∀ k, k < len → w.cell? ⟨b, off + k, none⟩ = some (.int .u8 (z.getD k 0))) :
    Calls Try.prog 16 #[.slice (some ⟨b, off, none⟩) len cap, .int .i64 start] w fun e w' => e = .returned (.tuple #[.int .i64 (eOf (scanAt z start 0)), .bool (kOf (scanAt z start 0))]) ∧ w = w' := by
  obtain ⟨R, hR⟩ : ∃ R, R = scanAt z start 0 := ⟨_, rfl⟩
  rw [← hR]
  have HZ : Hid (z.length = len) := hz
  have HR : Hid (R = scanAt z start 0) := hR
  clear hR hz
  go_enter Try.func16, Try.ntmps16
  go_wp2
  go_loop [6, 7] (fun dp i => ∃ (k : Nat) (d : Int), k ≤ len ∧ i = .int .i64 k ∧ dp = .int .i64 d ∧ -(k : Int) ≤ d ∧ d ≤ k ∧ Hid (R = scanAt z k d)) (fun _ i => len - (intOf i).toNat)
  case atStart => exact ⟨start, 0, hs, rfl, rfl, by omega, by omega, HR⟩
  case round =>
    obtain ⟨k, d, hk, rfl, rfl, hd1, hd2, HK⟩ := hrel
    clear HR
    by_cases hlt : k + 1 < len
    · have c0 := hc k (by omega)
      have c1 := hc (k + 1) hlt
      go_wp2
      · go_round
        case rel => exact ⟨k + 2, d + 1, by omega, by go_num, rfl, by omega, by omega, st_open HK HZ hlt ‹_› ‹_›⟩
        case measure => simp [intOf]; omega
      · go_round
        case rel => exact ⟨k + 1, d, by omega, by go_num, rfl, by omega, by omega, st_skip HK HZ hlt (.inl ⟨‹_›, ‹_›⟩)⟩
        case measure => simp [intOf]; omega
      · go_ret2
        exact ⟨ret_some (st_last HK HZ hlt ‹_› ‹_› ‹_›) (by omega), rfl⟩
      · go_round
        case rel => exact ⟨k + 2, d - 1, by omega, by go_num, rfl, by omega, by omega, st_close HK HZ hlt ‹_› ‹_› ‹_›⟩
        case measure => simp [intOf]; omega
      · go_round
        case rel => exact ⟨k + 1, d, by omega, by go_num, rfl, by omega, by omega, st_skip HK HZ hlt (.inr (.inl ⟨‹_›, ‹_›⟩))⟩
        case measure => simp [intOf]; omega
      · go_round
        case rel => exact ⟨k + 1, d, by omega, by go_num, rfl, by omega, by omega, st_skip HK HZ hlt (.inr (.inr ⟨‹_›, ‹_›⟩))⟩
        case measure => simp [intOf]; omega
    · go_wp2
      go_ret2
      exact ⟨ret_none (HK.out.trans (scanAt_over z k d (by rw [HZ.out]; exact hlt))), rfl⟩

/-- The exported name hands it on. -/
theorem zz_any (b off len cap : Nat) (z : List Int) (start : Nat) (w : World) (hz : z.length = len) (hm : len ≤ 1099511627776) (hs : start ≤ len)
    (hc : ∀ k, k < len → w.cell? ⟨b, off + k, none⟩ = some (.int .u8 (z.getD k 0))) :
    Calls Try.prog 12 #[.slice (some ⟨b, off, none⟩) len cap, .int .i64 start] w fun e w' => e = .returned (.tuple #[.int .i64 (eOf (scanAt z start 0)), .bool (kOf (scanAt z start 0))]) ∧ w = w' := by
  have H := bce_any b off len cap z start w hz hm hs hc
  obtain ⟨R, hR⟩ : ∃ R, R = scanAt z start 0 := ⟨_, rfl⟩
  rw [← hR] at H ⊢
  clear hR hc hz
  have HH : Hid (Calls Try.prog 16 #[.slice (some ⟨b, off, none⟩) len cap, .int .i64 start] w fun e w' => e = .returned (.tuple #[.int .i64 (eOf R), .bool (kOf R)]) ∧ w = w') := H
  clear H
  go_enter Try.func12, Try.ntmps12
  go_wp2_with fail
  refine Calls.mono HH.out ?_
  rintro e w' ⟨rfl, rfl⟩
  go_wp2
  go_ret2
  exact ⟨rfl, rfl⟩
end Go.Proofs.Qxb6619678a
