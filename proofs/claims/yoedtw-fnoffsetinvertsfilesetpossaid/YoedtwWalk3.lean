/-
  FnOffsetInvertsFileSetPos walked.
-/
import Derived.Test.YoedtwCopy
import Derived.Test.YoedtwWalk3Bad
namespace Go.Proofs.Yoedtw
open Go.RowKit

set_option maxHeartbeats 1000000 in
theorem walk3_good (s : ByteArray) (base size off : Int) (w : World) (hs : s.size ≤ 1048576) (h1 : 1 ≤ base) (h2 : base ≤ 536870912) (h3 : 0 ≤ size) (h4 : size ≤ 536870912) (h5 : 0 ≤ off) (h6 : off ≤ size) :
    Calls Edtg.prog 3 #[.string s, .int .i64 base, .int .i64 size, .int .i64 off] w fun e w' => e = .returned (.bool true) ∧ Below w.heap.size w w' := by
  go_enter Edtg.func3, Edtg.ntmps3
  go_wp2_with fail
  refine (bytes11_any s base size off _ (by omega)).mono ?_
  rintro e w1 ⟨⟨r, rfl, hr⟩, rfl⟩
  obtain rfl := hr hs
  clear hr
  go_wp2_with fail
  refine (build_any s base size none 0 0 [] _ rfl (by omega) (fun k hk => absurd hk (by simp)) h1 h2 h3 h4).mono ?_
  rintro e w2 ⟨fb, v, rfl, F2, b2⟩
  go_wp2_with fail
  refine (fileSetPos_any fb base size off _ h1 h2 h4 h5 h6 F2.c2 F2.c3).mono ?_
  rintro e w3 ⟨rfl, hw⟩
  subst hw
  go_wp2_with fail
  refine (isValid_any _ _ (by omega)).mono ?_
  rintro e w3 ⟨rfl, hw⟩
  subst hw
  go_wp2_with fail
  refine (offset_any fb base size _ _ h1 (by omega) h3 h4 (by omega) (by omega) F2.c2 F2.c3).mono ?_
  rintro e w4 ⟨rfl, hw⟩
  have bb := below_ex hw
  have F4 := F2.below bb
  have b4 := b2.trans (bb.mono b2.size)
  clear F2 b2 bb hw
  rw [show (base + off - base : Int) = off from by omega]
  go_wp2_with fail
  refine (offset_any fb base size _ _ h1 (by omega) h3 h4 (by omega) (by omega) F4.c2 F4.c3).mono ?_
  rintro e w5 ⟨rfl, hw⟩
  have bb := below_ex hw
  have F5 := F4.below bb
  have b5 := b4.trans (bb.mono b4.size)
  clear F4 b4 bb hw
  rw [show (base + off - base : Int) = off from by omega]
  go_wp2_with fail
  refine (fileSetPos_any fb base size off _ h1 h2 h4 h5 h6 F5.c2 F5.c3).mono ?_
  rintro e w6 ⟨rfl, hw⟩
  subst hw
  go_wp2_with fail
  refine (fileSetPos_any fb base size 0 _ h1 h2 h4 (by omega) h3 F5.c2 F5.c3).mono ?_
  rintro e w6 ⟨rfl, hw⟩
  subst hw
  rw [show (base + 0 : Int) = base from by omega]
  go_wp2_with fail
  refine (offset_any fb base size _ _ h1 (by omega) h3 h4 (by omega) (by omega) F5.c2 F5.c3).mono ?_
  rintro e w7 ⟨rfl, hw⟩
  have bb := below_ex hw
  have F7 := F5.below bb
  have b7 := b5.trans (bb.mono b5.size)
  clear F5 b5 bb hw
  rw [show (base - base : Int) = 0 from by omega]
  go_wp2_with fail
  refine (fileSetPos_any fb base size size _ h1 h2 h4 h3 (by omega) F7.c2 F7.c3).mono ?_
  rintro e w8 ⟨rfl, hw⟩
  subst hw
  go_wp2_with fail
  refine (offset_any fb base size _ _ h1 (by omega) h3 h4 (by omega) (by omega) F7.c2 F7.c3).mono ?_
  rintro e w9 ⟨rfl, hw⟩
  have bb := below_ex hw
  have b9 := b7.trans (bb.mono b7.size)
  clear F7 b7 bb hw
  rw [show (base + size - base : Int) = size from by omega]
  go_wp2_with fail
  go_ret
  exact ⟨rfl, b9⟩

theorem walk3 (s : ByteArray) (base size off : Int) (w : World) (hs : s.size ≤ maxLen) :
    Calls Edtg.prog 3 #[.string s, .int .i64 base, .int .i64 size, .int .i64 off] w fun e w' => e = .returned (.bool true) ∧ Below w.heap.size w w' := by
  unfold maxLen at hs
  by_cases h : s.size ≤ 1048576 ∧ 1 ≤ base ∧ base ≤ 536870912 ∧ 0 ≤ size ∧ size ≤ 536870912 ∧ 0 ≤ off ∧ off ≤ size
  · obtain ⟨h0, h1, h2, h3, h4, h5, h6⟩ := h
    exact walk3_good s base size off w h0 h1 h2 h3 h4 h5 h6
  · exact walk3_bad s base size off w (by omega) (by omega)

end Go.Proofs.Yoedtw
