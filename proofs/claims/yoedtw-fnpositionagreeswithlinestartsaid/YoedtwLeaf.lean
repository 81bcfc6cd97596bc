/-
  THE LEAVES: functions that only read: Offset, FileSetPos, IsValid, searchInts, zzModelLine, LineCount, LineStart.
-/
import Derived.Test.YoedtwRows
import Derived.Test.YoedtwPlain
import Derived.WalkKit
import Derived.WalkSpells
import Derived.WalkLawsBesides
import Derived.Deep.QuietTactic
import Derived.BigQuiet
namespace Go.Proofs.Yoedtw
open Go.RowKit

set_option maxHeartbeats 400000 in
theorem isValid_any (p : Int) (w : World) (h : 1 ≤ p) :
    Calls Edtg.prog 14 #[.int .i64 p] w fun e w' => e = .returned (.bool true) ∧ w' = w := by
  go_enter Edtg.func14, Edtg.ntmps14
  go_wp2
  go_ret
  exact ⟨by simp; omega, rfl⟩

set_option maxHeartbeats 400000 in
theorem fileSetPos_any (fb : Nat) (base size off : Int) (w : World) (h1 : 1 ≤ base) (h2 : base ≤ 536870912) (h3 : size ≤ 536870912) (h4 : 0 ≤ off) (h5 : off ≤ size)
    (c2 : w.cell? ⟨fb, 2, none⟩ = some (.int .i64 base)) (c3 : w.cell? ⟨fb, 3, none⟩ = some (.int .i64 size)) :
    Calls Edtg.prog 13 #[.pointer (some ⟨fb, 0, none⟩), .int .i64 off] w fun e w' => e = .returned (.int .i64 (base + off)) ∧ w' = w := by
  go_enter Edtg.func13, Edtg.ntmps13
  go_wp2
  go_ret
  exact ⟨rfl, rfl⟩

set_option maxHeartbeats 400000 in
theorem offset_any (fb : Nat) (base size p : Int) (w : World) (h1 : 1 ≤ base) (h2 : base ≤ 1073741832) (h3 : 0 ≤ size) (h3' : size ≤ 536870912) (h4 : base ≤ p) (h5 : p ≤ base + size)
    (c2 : w.cell? ⟨fb, 2, none⟩ = some (.int .i64 base)) (c3 : w.cell? ⟨fb, 3, none⟩ = some (.int .i64 size)) :
    Calls Edtg.prog 15 #[.pointer (some ⟨fb, 0, none⟩), .int .i64 p] w fun e w' => e = .returned (.int .i64 (p - base)) ∧ ∃ n, w' = w.drewN n := by
  have hd : decide (p < base) = false := decide_eq_false (by omega)
  go_enter Edtg.func15, Edtg.ntmps15
  go_wp2
  go_quiet (fail)
  go_wp2
  go_ret
  exact ⟨rfl, _, rfl⟩

end Go.Proofs.Yoedtw
