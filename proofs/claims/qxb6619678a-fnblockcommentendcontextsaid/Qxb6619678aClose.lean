/-
  The walk of 'zzClose' (function 13), which calls itself: it computes 'scanAt' at depth 1.
-/
import Derived.Test.Qxb6619678aBce
namespace Go.Proofs.Qxb6619678a
open Go.RowKit Scan
set_option linter.unusedVariables false

theorem inner_none {R : Option Nat} {z : List Int} {k len : Nat} (HK : Hid (R = scanAt z k 1)) (HZ : Hid (z.length = len)) (hlt : k + 1 < len) (h0 : z[k]?.getD 0 = 47) (h1 : (z[k + 1]?.getD 0 == 42) = true) (HS : Hid (scanAt z (k + 2) 1 = none)) : R = none := by
  have h := (st_open HK HZ hlt h0 h1).out
  rw [h, show (1 : Int) + 1 = 2 from rfl, scanAt_inner, HS.out]; rfl
theorem inner_some {R : Option Nat} {z : List Int} {k len j : Nat} (HK : Hid (R = scanAt z k 1)) (HZ : Hid (z.length = len)) (hlt : k + 1 < len) (h0 : z[k]?.getD 0 = 47) (h1 : (z[k + 1]?.getD 0 == 42) = true) (HS : Hid (scanAt z (k + 2) 1 = some j)) : Hid (R = scanAt z j 1) := by
  have h := (st_open HK HZ hlt h0 h1).out
  show R = _
  rw [h, show (1 : Int) + 1 = 2 from rfl, scanAt_inner, HS.out]; rfl

set_option maxHeartbeats 1000000 in
theorem close_any (b off len cap : Nat) (z : List Int) (w : World) (hz : z.length = len) (hm : len ≤ 1099511627776)
    (hc : ∀ k, k < len → w.cell? ⟨b, off + k, none⟩ = some (.int .u8 (z.getD k 0))) (n : Nat) : ∀ (i : Nat), len - i = n → i ≤ len →
    Calls Try.prog 13 #[.slice (some ⟨b, off, none⟩) len cap, .int .i64 i] w fun e w' => e = .returned (.tuple #[.int .i64 (eOf (scanAt z i 1)), .bool (kOf (scanAt z i 1))]) ∧ w = w' := by
  induction n using Nat.strongRecOn with
  | ind n ih =>
  intro i hn hi
  obtain ⟨R, hR⟩ : ∃ R, R = scanAt z i 1 := ⟨_, rfl⟩
  rw [← hR]
  have HZ : Hid (z.length = len) := hz
  have HR : Hid (R = scanAt z i 1) := hR
  have IH : Hid (∀ (k : Nat), i < k → k ≤ len → Calls Try.prog 13 #[.slice (some ⟨b, off, none⟩) len cap, .int .i64 k] w fun e w' => e = .returned (.tuple #[.int .i64 (eOf (scanAt z k 1)), .bool (kOf (scanAt z k 1))]) ∧ w = w') :=
    fun k h1 h2 => ih (len - k) (by omega) k rfl h2
  clear hR hz ih hn
  go_enter Try.func13, Try.ntmps13
  go_wp2_with fail
  go_loop [1] (fun iv => ∃ (k : Nat), k ≤ len ∧ i ≤ k ∧ iv = .int .i64 k ∧ Hid (R = scanAt z k 1)) (fun iv => len - (intOf iv).toNat)
  case atStart => exact ⟨i, hi, Nat.le_refl _, rfl, HR⟩
  case round =>
    obtain ⟨k, hk, hik, rfl, HK⟩ := hrel
    clear HR
    by_cases hlt : k + 1 < len
    · have c0 := hc k (by omega)
      have c1 := hc (k + 1) hlt
      clear hc
      by_cases ho : z[k]?.getD 0 = 47 ∧ (z[k + 1]?.getD 0 == 42) = true
      · obtain ⟨h0, h1⟩ := ho
        have hk2 : ((k : Int) + 2) = ((k + 2 : Nat) : Int) := by omega
        cases hS : scanAt z (k + 2) 1 with
        | none =>
          have HS : Hid (scanAt z (k + 2) 1 = none) := hS
          have C : Hid (Calls Try.prog 13 #[.slice (some ⟨b, off, none⟩) len cap, .int .i64 ((k : Int) + 2)] w fun e w' => e = .returned (.tuple #[.int .i64 0, .bool false]) ∧ w = w') := by
            have := IH.out (k + 2) (by omega) (by omega)
            rw [hS, ← hk2] at this
            exact this
          clear hS hk2
          go_wp2_with fail
          refine Calls.mono C.out ?_
          rintro e w' ⟨rfl, rfl⟩
          go_wp2_with fail
          go_ret2
          exact ⟨ret_none (inner_none HK HZ hlt h0 h1 HS), rfl⟩
        | some j =>
          have HS : Hid (scanAt z (k + 2) 1 = some j) := hS
          have hj := scanAt_end z _ _ _ hS
          have C : Hid (Calls Try.prog 13 #[.slice (some ⟨b, off, none⟩) len cap, .int .i64 ((k : Int) + 2)] w fun e w' => e = .returned (.tuple #[.int .i64 j, .bool true]) ∧ w = w') := by
            have := IH.out (k + 2) (by omega) (by omega)
            rw [hS, ← hk2] at this
            exact this
          have hj1 : k + 4 ≤ j := by omega
          have hj2 : j ≤ len := by have := HZ.out; omega
          clear hS hk2 hj
          go_wp2_with fail
          refine Calls.mono C.out ?_
          rintro e w' ⟨rfl, rfl⟩
          go_wp2_with fail
          go_round
          case rel => exact ⟨j, hj2, by omega, rfl, inner_some HK HZ hlt h0 h1 HS⟩
          case measure => simp [intOf]; omega
      · by_cases hq : z[k]?.getD 0 = 42 ∧ (z[k + 1]?.getD 0 == 47) = true
        · obtain ⟨h0, h1⟩ := hq
          clear ho
          go_wp2_with fail
          go_ret2
          exact ⟨ret_some (st_last HK HZ hlt h0 h1 rfl) (by omega), rfl⟩
        · have hr : (z[k]?.getD 0 = 47 ∧ (z[k + 1]?.getD 0 == 42) = false) ∨ (z[k]?.getD 0 = 42 ∧ (z[k + 1]?.getD 0 == 47) = false) ∨ (¬ z[k]?.getD 0 = 47 ∧ ¬ z[k]?.getD 0 = 42) := by
            simp at ho hq ⊢; omega
          have N := st_skip HK HZ hlt hr
          clear ho hq
          rcases hr with ⟨h0, h1⟩ | ⟨h0, h1⟩ | ⟨h0, h1⟩
          all_goals
            go_wp2_with fail
            go_round
            case rel => exact ⟨k + 1, by omega, by omega, by go_num, N⟩
            case measure => simp [intOf]; omega
    · clear hc
      go_wp2_with fail
      go_ret2
      exact ⟨ret_none (HK.out.trans (scanAt_over z k 1 (by rw [HZ.out]; exact hlt))), rfl⟩
end Go.Proofs.Qxb6619678a
