/-
  FnOffsetInvertsFileSetPos walked where an argument is out of range: it returns at once.
-/
import Derived.Test.YoedtwBytes
namespace Go.Proofs.Yoedtw
open Go.RowKit

set_option maxHeartbeats 1000000 in
theorem walk3_bad (s : ByteArray) (base size off : Int) (w : World) (hs : s.size ≤ 9223372036854775807)
    (h : 1048576 < s.size ∨ base < 1 ∨ 536870912 < base ∨ size < 0 ∨ 536870912 < size ∨ off < 0 ∨ size < off) :
    Calls Edtg.prog 3 #[.string s, .int .i64 base, .int .i64 size, .int .i64 off] w fun e w' => e = .returned (.bool true) ∧ Below w.heap.size w w' := by
  rcases h with h | h | h | h | h | h | h
  all_goals
    go_enter Edtg.func3, Edtg.ntmps3
    go_wp2_with fail
    refine (bytes11_any s base size off _ hs).mono ?_
    rintro e w1 ⟨⟨r, rfl, _⟩, rfl⟩
    cases r
    all_goals
      go_wp2_with fail
      all_goals go_ret
      all_goals exact ⟨rfl, Below.refl _ _⟩

end Go.Proofs.Yoedtw
