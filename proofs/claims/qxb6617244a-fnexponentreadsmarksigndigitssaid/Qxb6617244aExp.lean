/-
  The walks of 'exponent' (function 25) and of its exported name (function 16).
-/
import Derived.Test.Qxb6617244aDig
namespace Go.Proofs.Qxb6617244a
open Go.RowKit
set_option linter.unusedVariables false

/-- The mark is not there. -/
theorem exp_nomark (g len cap : Nat) (z : List Int) (i : Nat) (mark : Int) (w : World) (hm : len ≤ 1099511627776) (hi : i < len)
    (hc : ∀ k, k < len → w.cell? ⟨g, k, none⟩ = some (.int .u8 (z.getD k 0))) (h : (bits .or .u8 (z[i]?.getD 0) 32 != mark) = true) :
    Calls Try.prog 25 #[.slice (some ⟨g, 0, none⟩) len cap, .int .i64 i, .int .u8 mark] w fun e w' => e = .returned (.int .i64 i) ∧ w = w' := by
  have c0 := hc i hi
  clear hc
  go_enter Try.func25, Try.ntmps25
  go_wp2_with fail
  go_ret
  exact ⟨rfl, rfl⟩

/-- No digit follows; no sign. -/
theorem exp_none (g len cap : Nat) (z : List Int) (i : Nat) (mark : Int) (w : World) (hm : len ≤ 1099511627776) (hi : i < len)
    (hc : ∀ k, k < len → w.cell? ⟨g, k, none⟩ = some (.int .u8 (z.getD k 0))) (h : (bits .or .u8 (z[i]?.getD 0) 32 != mark) = false)
    (hn : i + 1 < len → ¬ z[i + 1]?.getD 0 = 43 ∧ ¬ z[i + 1]?.getD 0 = 45 ∧ (z[i + 1]?.getD 0 < 48 ∨ (48 ≤ z[i + 1]?.getD 0 ∧ 57 < z[i + 1]?.getD 0))) :
    Calls Try.prog 25 #[.slice (some ⟨g, 0, none⟩) len cap, .int .i64 i, .int .u8 mark] w fun e w' => e = .returned (.int .i64 i) ∧ w = w' := by
  have c0 := hc i hi
  by_cases h1 : i + 1 < len
  · have c1 := hc (i + 1) h1
    obtain ⟨n1', n2', n3⟩ := hn h1
    have n1 : (z[i + 1]?.getD 0 == 43) = false := by simpa using n1'
    have n2 : (z[i + 1]?.getD 0 == 45) = false := by simpa using n2'
    clear hc hn n1' n2'
    have N3 : Hid (z[i + 1]?.getD 0 < 48 ∨ (48 ≤ z[i + 1]?.getD 0 ∧ 57 < z[i + 1]?.getD 0)) := n3
    clear n3
    go_enter Try.func25, Try.ntmps25
    go_wp2_with (go_at_call 27; go_must (refine (digit_no _ _ N3.out).mono ?_; rintro e w' ⟨rfl, rfl⟩))
    go_ret
    exact ⟨rfl, rfl⟩
  · clear hc hn
    go_enter Try.func25, Try.ntmps25
    go_wp2_with fail
    go_ret
    exact ⟨rfl, rfl⟩

/-- No digit follows the sign. -/
theorem exp_sign_none (g len cap : Nat) (z : List Int) (i : Nat) (mark : Int) (w : World) (hm : len ≤ 1099511627776) (hi : i + 1 < len)
    (hc : ∀ k, k < len → w.cell? ⟨g, k, none⟩ = some (.int .u8 (z.getD k 0))) (h : (bits .or .u8 (z[i]?.getD 0) 32 != mark) = false)
    (hs : z[i + 1]?.getD 0 = 43 ∨ z[i + 1]?.getD 0 = 45) (hn : i + 2 < len → (z[i + 2]?.getD 0 < 48 ∨ (48 ≤ z[i + 2]?.getD 0 ∧ 57 < z[i + 2]?.getD 0))) :
    Calls Try.prog 25 #[.slice (some ⟨g, 0, none⟩) len cap, .int .i64 i, .int .u8 mark] w fun e w' => e = .returned (.int .i64 i) ∧ w = w' := by
  have c0 := hc i (by omega)
  have c1 := hc (i + 1) hi
  by_cases h1 : i + 2 < len
  · have c2 := hc (i + 2) h1
    have N3 : Hid (z[i + 2]?.getD 0 < 48 ∨ (48 ≤ z[i + 2]?.getD 0 ∧ 57 < z[i + 2]?.getD 0)) := hn h1
    clear hc hn
    rcases hs with hs | hs
    all_goals
      go_enter Try.func25, Try.ntmps25
      go_wp2_with (go_at_call 27; go_must (refine (digit_no _ _ N3.out).mono ?_; rintro e w' ⟨rfl, rfl⟩))
      go_ret
      exact ⟨rfl, rfl⟩
  · clear hc hn
    rcases hs with hs | hs
    all_goals
      go_enter Try.func25, Try.ntmps25
      go_wp2_with fail
      go_ret
      exact ⟨rfl, rfl⟩

set_option maxHeartbeats 1000000 in
/-- Digits follow, from j0 (behind the mark, or behind the sign) up to e. -/
theorem exp_full (g len cap : Nat) (z : List Int) (i j0 e : Nat) (mark : Int) (w : World) (hm : len ≤ 1099511627776) (hj : j0 < e) (he : e ≤ len)
    (hc : ∀ k, k < len → w.cell? ⟨g, k, none⟩ = some (.int .u8 (z.getD k 0))) (h : (bits .or .u8 (z[i]?.getD 0) 32 != mark) = false)
    (hs : j0 = i + 1 ∨ (j0 = i + 2 ∧ (z[i + 1]?.getD 0 = 43 ∨ z[i + 1]?.getD 0 = 45)))
    (hd : ∀ k, j0 ≤ k → k < e → 48 ≤ z[k]?.getD 0 ∧ z[k]?.getD 0 ≤ 57) (hn : e < len → (z[e]?.getD 0 < 48 ∨ (48 ≤ z[e]?.getD 0 ∧ 57 < z[e]?.getD 0))) :
    Calls Try.prog 25 #[.slice (some ⟨g, 0, none⟩) len cap, .int .i64 i, .int .u8 mark] w fun e' w' => e' = .returned (.int .i64 e) ∧ w = w' := by
  have c0 := hc i (by omega)
  have c1 := hc (i + 1) (by omega)
  have c2 := hc j0 (by omega)
  obtain ⟨d1, d2⟩ := hd j0 (Nat.le_refl _) hj
  have HC : Hid (∀ k, k < len → w.cell? ⟨g, k, none⟩ = some (.int .u8 (z.getD k 0))) := hc
  have HD : Hid (∀ k, j0 ≤ k → k < e → 48 ≤ z[k]?.getD 0 ∧ z[k]?.getD 0 ≤ 57) := hd
  have HN : Hid (e < len → (z[e]?.getD 0 < 48 ∨ (48 ≤ z[e]?.getD 0 ∧ 57 < z[e]?.getD 0))) := hn
  clear hc hd hn
  rcases hs with rfl | ⟨rfl, hs | hs⟩
  · have n1 : (z[i + 1]?.getD 0 == 43) = false := by simp; omega
    have n2 : (z[i + 1]?.getD 0 == 45) = false := by simp; omega
    go_enter Try.func25, Try.ntmps25
    go_wp2_with (go_at_call 27; go_must (refine (digit_yes _ _ d1 d2).mono ?_; rintro e' w' ⟨rfl, rfl⟩))
    go_loop [7] (fun j => ∃ k : Nat, i + 1 ≤ k ∧ k ≤ e ∧ j = .int .i64 k ∧ Hid (∀ q, k ≤ q → q < e → 48 ≤ z[q]?.getD 0 ∧ z[q]?.getD 0 ≤ 57)) (fun j => e - (intOf j).toNat)
    case atStart => exact ⟨_, by omega, Nat.le_of_lt hj, by go_num, HD⟩
    case round =>
      obtain ⟨k, hk0, hk, rfl, HK⟩ := hrel
      clear d1 d2 c0 c1 c2 HD h
      by_cases hlt : k < e
      · have ck := HC.out k (by omega)
        obtain ⟨d1, d2⟩ := HK.out k (Nat.le_refl _) hlt
        go_wp2_with (go_at_call 27; go_must (refine (digit_yes _ _ d1 d2).mono ?_; rintro e' w' ⟨rfl, rfl⟩))
        go_round
        case rel => exact ⟨k + 1, by omega, by omega, by go_num, fun q h1 h2 => HK.out q (by omega) h2⟩
        case measure => simp [intOf]; omega
      · obtain rfl : k = e := by omega
        by_cases hl : k < len
        · have ck := HC.out k hl
          have N := HN.out hl
          have N3 : Hid (z[k]?.getD 0 < 48 ∨ (48 ≤ z[k]?.getD 0 ∧ 57 < z[k]?.getD 0)) := N
          clear N HN
          go_wp2_with (go_at_call 27; go_must (refine (digit_no _ _ N3.out).mono ?_; rintro e' w' ⟨rfl, rfl⟩))
          go_ret
          exact ⟨rfl, rfl⟩
        · clear HN
          go_wp2_with fail
          go_ret
          exact ⟨rfl, rfl⟩
  all_goals
    go_enter Try.func25, Try.ntmps25
    go_wp2_with (go_at_call 27; go_must (refine (digit_yes _ _ d1 d2).mono ?_; rintro e' w' ⟨rfl, rfl⟩))
    go_loop [7] (fun j => ∃ k : Nat, i + 1 ≤ k ∧ k ≤ e ∧ j = .int .i64 k ∧ Hid (∀ q, k ≤ q → q < e → 48 ≤ z[q]?.getD 0 ∧ z[q]?.getD 0 ≤ 57)) (fun j => e - (intOf j).toNat)
    case atStart => exact ⟨_, by omega, Nat.le_of_lt hj, by go_num, HD⟩
    case round =>
      obtain ⟨k, hk0, hk, rfl, HK⟩ := hrel
      clear d1 d2 c0 c1 c2 HD h
      by_cases hlt : k < e
      · have ck := HC.out k (by omega)
        obtain ⟨d1, d2⟩ := HK.out k (Nat.le_refl _) hlt
        go_wp2_with (go_at_call 27; go_must (refine (digit_yes _ _ d1 d2).mono ?_; rintro e' w' ⟨rfl, rfl⟩))
        go_round
        case rel => exact ⟨k + 1, by omega, by omega, by go_num, fun q h1 h2 => HK.out q (by omega) h2⟩
        case measure => simp [intOf]; omega
      · obtain rfl : k = e := by omega
        by_cases hl : k < len
        · have ck := HC.out k hl
          have N := HN.out hl
          have N3 : Hid (z[k]?.getD 0 < 48 ∨ (48 ≤ z[k]?.getD 0 ∧ 57 < z[k]?.getD 0)) := N
          clear N HN
          go_wp2_with (go_at_call 27; go_must (refine (digit_no _ _ N3.out).mono ?_; rintro e' w' ⟨rfl, rfl⟩))
          go_ret
          exact ⟨rfl, rfl⟩
        · clear HN
          go_wp2_with fail
          go_ret
          exact ⟨rfl, rfl⟩

/-- The exported name hands it on. -/
theorem zz_of (v : Value) (i mark r : Int) (w : World) (h : Calls Try.prog 25 #[v, .int .i64 i, .int .u8 mark] w fun e w' => e = .returned (.int .i64 r) ∧ w = w') :
    Calls Try.prog 16 #[v, .int .i64 i, .int .u8 mark] w fun e w' => e = .returned (.int .i64 r) ∧ w = w' := by
  have H : Hid (Calls Try.prog 25 #[v, .int .i64 i, .int .u8 mark] w fun e w' => e = .returned (.int .i64 r) ∧ w = w') := h
  clear h
  go_enter Try.func16, Try.ntmps16
  go_wp2_with fail
  refine Calls.mono H.out ?_
  rintro e w' ⟨rfl, rfl⟩
  go_wp2_with fail
  go_ret
  exact ⟨rfl, rfl⟩
end Go.Proofs.Qxb6617244a
