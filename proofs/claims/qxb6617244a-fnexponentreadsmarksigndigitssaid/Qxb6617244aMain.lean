/-
  The walk of the law 'FnExponentReadsMarkSignDigits' (function 6).
-/
import Derived.Test.Qxb6617244aThree
import Derived.Maps.AppendAt
namespace Go.Proofs.Qxb6617244a
open Go.RowKit Go.WideShapes
set_option linter.unusedVariables false
set_option maxRecDepth 100000

theorem bytes19 (a0 a2 a3 a4 : Option Addr) (l0 c0 l2 c2 l3 c3 l4 c4 : Nat) (up : Bool) (mark : Int) (w : World) (h0 : l0 ≤ 262144) (h2 : l2 ≤ 1) (h3 : l3 ≤ 262144) (h4 : l4 ≤ 262144) :
    Calls Try.prog 19 #[.slice a0 l0 c0, .bool up, .slice a2 l2 c2, .slice a3 l3 c3, .slice a4 l4 c4, .int .u8 mark] w fun e w' => e = .returned (.bool true) ∧ w = w' := by
  go_enter Try.func19, Try.ntmps19
  go_wp2
  go_ret
  exact ⟨rfl, rfl⟩

set_option maxHeartbeats 1000000 in
/-- Lengths, marks that the law passes over. -/
theorem early (a0 a2 a3 a4 : Option Addr) (l0 c0 l2 c2 l3 c3 l4 c4 : Nat) (up : Bool) (mark : Int) (w : World) (m0 : l0 ≤ maxLen) (m2 : l2 ≤ maxLen) (m3 : l3 ≤ maxLen) (m4 : l4 ≤ maxLen)
    (h : 262144 < l0 ∨ 262144 < l3 ∨ 262144 < l4 ∨ 1 < l2 ∨ mark < 97 ∨ 122 < mark) :
    Calls Try.prog 6 #[.slice a0 l0 c0, .bool up, .slice a2 l2 c2, .slice a3 l3 c3, .slice a4 l4 c4, .int .u8 mark] w fun e w' => e = .returned (.bool true) ∧ w = w' := by
  unfold maxLen at m0 m2 m3 m4
  by_cases b0 : 262144 < l0
  · clear h
    go_enter Try.func6, Try.ntmps6
    go_wp2
    all_goals (go_ret; exact ⟨rfl, rfl⟩)
  by_cases b3 : 262144 < l3
  · clear h
    go_enter Try.func6, Try.ntmps6
    go_wp2
    all_goals (go_ret; exact ⟨rfl, rfl⟩)
  by_cases b4 : 262144 < l4
  · clear h
    go_enter Try.func6, Try.ntmps6
    go_wp2
    all_goals (go_ret; exact ⟨rfl, rfl⟩)
  by_cases b2 : 1 < l2
  · clear h
    go_enter Try.func6, Try.ntmps6
    go_wp2
    all_goals (go_ret; exact ⟨rfl, rfl⟩)
  by_cases b5 : mark < 97
  · clear h
    go_enter Try.func6, Try.ntmps6
    go_wp2
    all_goals (go_ret; exact ⟨rfl, rfl⟩)
  · have b6 : 122 < mark := by omega
    clear h
    go_enter Try.func6, Try.ntmps6
    go_wp2
    all_goals (go_ret; exact ⟨rfl, rfl⟩)

end Go.Proofs.Qxb6617244a
