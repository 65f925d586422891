/-
  The walks of 'zzIsDec' (function 18) and 'isDigit' at base 10 (function 27).
-/
import Derived.Test.Qxb6617244aRows
import Derived.WalkKit
import Derived.ProofKit
import Derived.WalkSpells
import Derived.Below
import Derived.WalkLawsBesides
namespace Go.Proofs.Qxb6617244a
open Go.RowKit
set_option linter.unusedVariables false

theorem ret_yes {p : Prop} [Decidable p] (h : p) : Ending.returned (.bool (decide p)) = .returned (.bool true) := by rw [decide_eq_true h]
theorem ret_no {p : Prop} [Decidable p] (h : ¬ p) : Ending.returned (.bool (decide p)) = .returned (.bool false) := by rw [decide_eq_false h]

theorem dec_yes (c : Int) (w : World) (h1 : 48 ≤ c) (h2 : c ≤ 57) : Calls Try.prog 18 #[.int .u8 c] w fun e w' => e = .returned (.bool true) ∧ w = w' := by
  go_enter Try.func18, Try.ntmps18
  go_wp2
  go_ret
  first | exact ⟨rfl, rfl⟩ | exact ⟨ret_yes (by omega), rfl⟩
theorem dec_no (c : Int) (w : World) (h : c < 48 ∨ (48 ≤ c ∧ 57 < c)) : Calls Try.prog 18 #[.int .u8 c] w fun e w' => e = .returned (.bool false) ∧ w = w' := by
  rcases h with h | ⟨h, h'⟩
  all_goals
    go_enter Try.func18, Try.ntmps18
    go_wp2
    go_ret
    first | exact ⟨rfl, rfl⟩ | exact ⟨ret_no (by omega), rfl⟩
theorem digit_yes (c : Int) (w : World) (h1 : 48 ≤ c) (h2 : c ≤ 57) : Calls Try.prog 27 #[.int .u8 c, .int .i64 10] w fun e w' => e = .returned (.bool true) ∧ w = w' := by
  go_enter Try.func27, Try.ntmps27
  go_wp2
  go_ret
  exact ⟨rfl, rfl⟩
theorem digit_no (c : Int) (w : World) (h : c < 48 ∨ (48 ≤ c ∧ 57 < c)) : Calls Try.prog 27 #[.int .u8 c, .int .i64 10] w fun e w' => e = .returned (.bool false) ∧ w = w' := by
  rcases h with h | ⟨h, h'⟩
  all_goals
    go_enter Try.func27, Try.ntmps27
    go_wp2
    go_ret
    first | exact ⟨rfl, rfl⟩ | exact ⟨ret_no (by omega), rfl⟩

end Go.Proofs.Qxb6617244a
