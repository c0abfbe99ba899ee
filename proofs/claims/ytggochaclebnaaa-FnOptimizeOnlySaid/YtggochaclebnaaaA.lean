/- Walks of the small functions: target, sameStep, operand, ZzNewCompiler. -/
import Derived.Test.YtggochaclebnaaaRows
import Derived.WalkKit
import Derived.WalkSpells
import Derived.WalkLawsBesides
namespace Go.Proofs.Ytggochaclebnaaa
open Go.RowKit

/-- A Step as a value. -/
abbrev stp (d a b c : Int) : Value := .agg #[.int .i64 d, .int .i64 a, .int .i64 b, .int .i64 c]

set_option maxHeartbeats 400000 in
theorem target_yes (d a b c : Int) (h : d = 15 ∨ d = 16 ∨ d = 19 ∨ d = 20) (w : World) :
    Calls Try.prog 7 #[stp d a b c] w fun e w' => e = .returned (.bool true) ∧ w' = w.alloc (.cells #[.int .i64 d, .int .i64 a, .int .i64 b, .int .i64 c] 26) := by
  rcases h with rfl | rfl | rfl | rfl
  all_goals
    go_enter Try.func7, Try.ntmps7
    go_wp2
    go_ret
    exact ⟨rfl, rfl⟩

set_option maxHeartbeats 400000 in
theorem target_no (d a b c : Int) (h1 : d ≠ 15) (h2 : d ≠ 16) (h3 : d ≠ 19) (h4 : d ≠ 20) (w : World) :
    Calls Try.prog 7 #[stp d a b c] w fun e w' => e = .returned (.bool false) ∧ w' = w.alloc (.cells #[.int .i64 d, .int .i64 a, .int .i64 b, .int .i64 c] 26) := by
  have e1 : (d == 15) = false := beq_eq_false_iff_ne.2 h1
  have e2 : (d == 16) = false := beq_eq_false_iff_ne.2 h2
  have e3 : (d == 19) = false := beq_eq_false_iff_ne.2 h3
  have e4 : (d == 20) = false := beq_eq_false_iff_ne.2 h4
  clear h1 h2 h3 h4
  go_enter Try.func7, Try.ntmps7
  go_wp2
  go_ret
  exact ⟨rfl, rfl⟩

set_option maxHeartbeats 400000 in
theorem newc (w : World) :
    Calls Try.prog 9 #[] w fun e w' => e = .returned (.pointer (some ⟨w.heap.size, 0, none⟩)) ∧ w' = w.alloc (.cells #[.nilIface, .nilFunc, .slice none 0 0, .map none, .nilIface, .slice none 0 0, .slice none 0 0, .pointer none, .slice none 0 0, .int .i64 0] 49) := by
  go_enter Try.func9, Try.ntmps9
  go_wp2
  go_ret
  exact ⟨rfl, rfl⟩

end Go.Proofs.Ytggochaclebnaaa
