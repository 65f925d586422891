/-
  The walk of 'zzCompareB1' (function 7), at two rows of one length.
-/
import Derived.Test.Qxb6623418aArr
namespace Go.Proofs.Qxb6623418a
open Go.RowKit Cmp
set_option linter.unusedVariables false

/-- The elements of a slice value lie at its address. -/
def Holds (w : World) (a : Addr) (z : List Int) : Prop := ∀ k, k < z.length → w.cell? ⟨a.block, a.off + k, none⟩ = some (.int .u8 (z.getD k 0))
theorem Holds.drewN {w : World} {a : Addr} {z : List Int} (h : Holds w a z) (n : Nat) : Holds (w.drewN n) a z := h

theorem drewn_two (w : World) (a b : Nat) : ∃ m, (w.drewN a).drewN b = w.drewN m := ⟨a + b, by simp [World.drewN, Nat.add_assoc]⟩
theorem drewn_three (w : World) (a b c : Nat) : ∃ m, ((w.drewN a).drewN b).drewN c = w.drewN m := ⟨a + b + c, by simp [World.drewN, Nat.add_assoc]⟩

set_option maxHeartbeats 1000000 in
theorem cmpb_any (b o c b' o' c' n : Nat) (x y : List Int) (w : World) (hx : x.length = n) (hy : y.length = n) (hn : n ≤ 1099511627776) (h1 : Holds w ⟨b, o, none⟩ x) (h2 : Holds w ⟨b', o', none⟩ y) :
    Calls Try.prog 7 #[.slice (some ⟨b, o, none⟩) n c, .slice (some ⟨b', o', none⟩) n c'] w fun e w' => e = .returned (.int .i64 (cmp x y)) ∧ ∃ m, w' = w.drewN m := by
  obtain ⟨R, hR⟩ : ∃ R, R = cmp x y := ⟨_, rfl⟩
  rw [← hR]
  have HR : Hid (R = cmp (x.drop 0) (y.drop 0)) := by rw [List.drop_zero, List.drop_zero]; exact hR
  have HX : Hid (x.length = n) := hx
  have HY : Hid (y.length = n) := hy
  clear hR hx hy
  go_enter Try.func7, Try.ntmps7
  go_wp2
  go_loopw [6] (fun i wr => ∃ k : Nat, k ≤ n ∧ i = .int .i64 k ∧ Hid (∃ m, wr = w.drewN m) ∧ Hid (R = cmp (x.drop k) (y.drop k))) (fun i _ => n - (intOf i).toNat)
  case atStart => exact ⟨0, by omega, rfl, ⟨0, rfl⟩, HR⟩
  case round =>
    obtain ⟨k, hk, rfl, HW, HK⟩ := hrel
    clear HR
    obtain ⟨m0, rfl⟩ := HW.out
    clear HW
    by_cases hlt : k < n
    · have cx := h1 k (by rw [HX.out]; exact hlt)
      have cy := h2 k (by rw [HY.out]; exact hlt)
      by_cases g1 : x[k]?.getD 0 < y[k]?.getD 0
      · go_wp2
        go_quiet (fail)
        go_wp2
        go_ret
        exact ⟨ret_num (st_less HK (by rw [HX.out]; exact hlt) (by rw [HY.out]; exact hlt) g1), drewn_two _ _ _⟩
      · by_cases g2 : y[k]?.getD 0 < x[k]?.getD 0
        · go_wp2
          go_quiet (fail)
          go_wp2
          go_quiet (fail)
          go_wp2
          go_ret
          exact ⟨ret_num (st_more HK (by rw [HX.out]; exact hlt) (by rw [HY.out]; exact hlt) g2), drewn_three _ _ _ _⟩
        · have N := st_step HK (by rw [HX.out]; exact hlt) (by rw [HY.out]; exact hlt) g1 g2
          go_wp2
          go_quiet (fail)
          go_wp2
          go_quiet (fail)
          go_wp2
          go_roundw
          case rel => exact ⟨k + 1, by omega, by go_num, ⟨_, rfl⟩, N⟩
          case measure => simp [intOf]; omega
    · go_wp2
      go_ret
      exact ⟨ret_num (HK.out.trans (cmp_end x y k (by rw [HX.out]; omega) (by rw [HY.out]; omega))), _, rfl⟩
end Go.Proofs.Qxb6623418a
