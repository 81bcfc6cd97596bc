/-
  FnOffsetFreshSetClosedForm walked where an argument is out of range: it returns at once.
-/
import Derived.Test.YoedtwLeaf
namespace Go.Proofs.Yoedtw
open Go.RowKit

set_option maxHeartbeats 400000 in
theorem walk4_bad (a b k1 k2 : Int) (w : World) (h : a < 0 ∨ 536870912 < a ∨ b < 0 ∨ 536870912 < b ∨ k1 < 0 ∨ a < k1 ∨ k2 < 0 ∨ b < k2) :
    Calls Edtg.prog 4 #[.int .i64 a, .int .i64 b, .int .i64 k1, .int .i64 k2] w fun e w' => e = .returned (.bool true) ∧ Below w.heap.size w w' := by
  rcases h with h | h | h | h | h | h | h | h
  all_goals
    go_enter Edtg.func4, Edtg.ntmps4
    go_wp2_with fail
    all_goals go_ret
    all_goals exact ⟨rfl, Below.refl _ _⟩

end Go.Proofs.Yoedtw
