/-
  FnPositionMatchesLineModel walked where an argument is out of range: it returns at once.
-/
import Derived.Test.YoedtwBytes
namespace Go.Proofs.Yoedtw
open Go.RowKit

set_option maxHeartbeats 4000000 in
theorem walk5_bad (s : ByteArray) (base size : Int) (a : Option Addr) (n cap : Nat) (p : Int) (w : World) (hs : s.size ≤ 9223372036854775807) (hn : n ≤ 1048576)
    (h : 1048576 < s.size ∨ 131072 < n ∨ 1048576 < s.size + 8 * n ∨ base < 1 ∨ 536870912 < base ∨ size < 0 ∨ 536870912 < size ∨ ((p != 0) = true ∧ p < base) ∨ ((p != 0) = true ∧ base + size < p)) :
    Calls Edtg.prog 5 #[.string s, .int .i64 base, .int .i64 size, .slice a n cap, .int .i64 p] w fun e w' => e = .returned (.bool true) ∧ Below w.heap.size w w' := by
  rcases h with h | h | h | h | h | h | h | ⟨hp0, h⟩ | ⟨hp0, h⟩
  all_goals
    go_enter Edtg.func5, Edtg.ntmps5
    go_wp2_with fail
    refine (bytes18_any s base size a n cap p _ hs (by omega)).mono ?_
    rintro e w1 ⟨⟨r, rfl, _, _⟩, rfl⟩
    cases r
    all_goals
      go_wp2_with fail
      all_goals go_ret
      all_goals exact ⟨rfl, Below.refl _ _⟩

set_option maxHeartbeats 400000 in
theorem walk5_far (s : ByteArray) (base size : Int) (a : Option Addr) (n cap : Nat) (p : Int) (w : World) (hs : s.size ≤ 9223372036854775807) (hn : n ≤ 9223372036854775807) (h : 1048576 < s.size + n) :
    Calls Edtg.prog 5 #[.string s, .int .i64 base, .int .i64 size, .slice a n cap, .int .i64 p] w fun e w' => e = .returned (.bool true) ∧ Below w.heap.size w w' := by
  go_enter Edtg.func5, Edtg.ntmps5
  go_wp2_with fail
  refine (bytes18_any s base size a n cap p _ hs hn).mono ?_
  rintro e w1 ⟨⟨r, rfl, _, hr⟩, rfl⟩
  obtain rfl := hr h
  clear hr
  go_wp2_with fail
  go_ret
  exact ⟨rfl, Below.refl _ _⟩

end Go.Proofs.Yoedtw
