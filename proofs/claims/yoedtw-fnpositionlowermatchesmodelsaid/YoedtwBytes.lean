/-
  The bounds on total length (zzBytes_..): each returns some bool and turns nothing; where the lengths are small it returns true.
-/
import Derived.Test.YoedtwLeaf
namespace Go.Proofs.Yoedtw
open Go.RowKit

set_option maxHeartbeats 400000 in
theorem bytes11_any (s : ByteArray) (a b c : Int) (w : World) (hs : s.size ≤ 9223372036854775807) :
    Calls Edtg.prog 11 #[.string s, .int .i64 a, .int .i64 b, .int .i64 c] w fun e w' => (∃ r, e = .returned (.bool r) ∧ (s.size ≤ 1048576 → r = true)) ∧ w' = w := by
  by_cases h : s.size ≤ 1048576
  · go_enter Edtg.func11, Edtg.ntmps11
    go_wp2
    go_ret
    exact ⟨⟨_, rfl, fun _ => rfl⟩, rfl⟩
  · go_enter Edtg.func11, Edtg.ntmps11
    go_wp2
    go_ret
    exact ⟨⟨_, rfl, fun h' => absurd h' h⟩, rfl⟩

set_option maxHeartbeats 400000 in
theorem bytes18_any (s : ByteArray) (a b : Int) (ao : Option Addr) (n cap : Nat) (c : Int) (w : World) (hs : s.size ≤ 9223372036854775807) (hn : n ≤ 9223372036854775807) :
    Calls Edtg.prog 18 #[.string s, .int .i64 a, .int .i64 b, .slice ao n cap, .int .i64 c] w fun e w' => (∃ r, e = .returned (.bool r) ∧ (s.size + n ≤ 1048576 → r = true) ∧ (1048576 < s.size + n → r = false)) ∧ w' = w := by
  by_cases h : s.size ≤ 1048576
  · by_cases h2 : n ≤ 1048576
    · by_cases h3 : s.size + n ≤ 1048576
      · go_enter Edtg.func18, Edtg.ntmps18
        go_wp2
        go_ret
        exact ⟨⟨_, rfl, fun _ => rfl, fun h' => absurd h' (by omega)⟩, rfl⟩
      · go_enter Edtg.func18, Edtg.ntmps18
        go_wp2
        go_ret
        exact ⟨⟨_, rfl, fun h' => absurd h' h3, fun _ => rfl⟩, rfl⟩
    · go_enter Edtg.func18, Edtg.ntmps18
      go_wp2
      go_ret
      exact ⟨⟨_, rfl, fun h' => absurd h' (by omega), fun _ => rfl⟩, rfl⟩
  · go_enter Edtg.func18, Edtg.ntmps18
    go_wp2
    go_ret
    exact ⟨⟨_, rfl, fun h' => absurd h' (by omega), fun _ => rfl⟩, rfl⟩

set_option maxHeartbeats 400000 in
theorem bytes22_any (s : ByteArray) (a b : Int) (ao : Option Addr) (n cap : Nat) (c : Int) (w : World) (hs : s.size ≤ 9223372036854775807) (hn : n ≤ 9223372036854775807) :
    Calls Edtg.prog 22 #[.string s, .int .i64 a, .int .i64 b, .slice ao n cap, .int .i64 c] w fun e w' => (∃ r, e = .returned (.bool r) ∧ (s.size + n ≤ 1048576 → r = true) ∧ (1048576 < s.size + n → r = false)) ∧ w' = w := by
  by_cases h : s.size ≤ 1048576
  · by_cases h2 : n ≤ 1048576
    · by_cases h3 : s.size + n ≤ 1048576
      · go_enter Edtg.func22, Edtg.ntmps22
        go_wp2
        go_ret
        exact ⟨⟨_, rfl, fun _ => rfl, fun h' => absurd h' (by omega)⟩, rfl⟩
      · go_enter Edtg.func22, Edtg.ntmps22
        go_wp2
        go_ret
        exact ⟨⟨_, rfl, fun h' => absurd h' h3, fun _ => rfl⟩, rfl⟩
    · go_enter Edtg.func22, Edtg.ntmps22
      go_wp2
      go_ret
      exact ⟨⟨_, rfl, fun h' => absurd h' (by omega), fun _ => rfl⟩, rfl⟩
  · go_enter Edtg.func22, Edtg.ntmps22
    go_wp2
    go_ret
    exact ⟨⟨_, rfl, fun h' => absurd h' (by omega), fun _ => rfl⟩, rfl⟩

set_option maxHeartbeats 400000 in
theorem bytes25_any (s : ByteArray) (a b : Int) (ao : Option Addr) (n cap : Nat) (c : Int) (w : World) (hs : s.size ≤ 9223372036854775807) (hn : n ≤ 9223372036854775807) :
    Calls Edtg.prog 25 #[.string s, .int .i64 a, .int .i64 b, .slice ao n cap, .int .i64 c] w fun e w' => (∃ r, e = .returned (.bool r) ∧ (s.size + n ≤ 1048576 → r = true) ∧ (1048576 < s.size + n → r = false)) ∧ w' = w := by
  by_cases h : s.size ≤ 1048576
  · by_cases h2 : n ≤ 1048576
    · by_cases h3 : s.size + n ≤ 1048576
      · go_enter Edtg.func25, Edtg.ntmps25
        go_wp2
        go_ret
        exact ⟨⟨_, rfl, fun _ => rfl, fun h' => absurd h' (by omega)⟩, rfl⟩
      · go_enter Edtg.func25, Edtg.ntmps25
        go_wp2
        go_ret
        exact ⟨⟨_, rfl, fun h' => absurd h' h3, fun _ => rfl⟩, rfl⟩
    · go_enter Edtg.func25, Edtg.ntmps25
      go_wp2
      go_ret
      exact ⟨⟨_, rfl, fun h' => absurd h' (by omega), fun _ => rfl⟩, rfl⟩
  · go_enter Edtg.func25, Edtg.ntmps25
    go_wp2
    go_ret
    exact ⟨⟨_, rfl, fun h' => absurd h' (by omega), fun _ => rfl⟩, rfl⟩

set_option maxHeartbeats 400000 in
theorem bytes27_any (s : ByteArray) (a b : Int) (ao : Option Addr) (n cap : Nat) (c : Int) (w : World) (hs : s.size ≤ 9223372036854775807) (hn : n ≤ 9223372036854775807) :
    Calls Edtg.prog 27 #[.string s, .int .i64 a, .int .i64 b, .slice ao n cap, .int .i64 c] w fun e w' => (∃ r, e = .returned (.bool r) ∧ (s.size + n ≤ 1048576 → r = true) ∧ (1048576 < s.size + n → r = false)) ∧ w' = w := by
  by_cases h : s.size ≤ 1048576
  · by_cases h2 : n ≤ 1048576
    · by_cases h3 : s.size + n ≤ 1048576
      · go_enter Edtg.func27, Edtg.ntmps27
        go_wp2
        go_ret
        exact ⟨⟨_, rfl, fun _ => rfl, fun h' => absurd h' (by omega)⟩, rfl⟩
      · go_enter Edtg.func27, Edtg.ntmps27
        go_wp2
        go_ret
        exact ⟨⟨_, rfl, fun h' => absurd h' h3, fun _ => rfl⟩, rfl⟩
    · go_enter Edtg.func27, Edtg.ntmps27
      go_wp2
      go_ret
      exact ⟨⟨_, rfl, fun h' => absurd h' (by omega), fun _ => rfl⟩, rfl⟩
  · go_enter Edtg.func27, Edtg.ntmps27
    go_wp2
    go_ret
    exact ⟨⟨_, rfl, fun h' => absurd h' (by omega), fun _ => rfl⟩, rfl⟩

set_option maxHeartbeats 400000 in
theorem bytes28_any (s : ByteArray) (a b : Int) (ao : Option Addr) (n cap : Nat) (c : Int) (w : World) (hs : s.size ≤ 9223372036854775807) (hn : n ≤ 9223372036854775807) :
    Calls Edtg.prog 28 #[.string s, .int .i64 a, .int .i64 b, .slice ao n cap, .int .i64 c] w fun e w' => (∃ r, e = .returned (.bool r) ∧ (s.size + n ≤ 1048576 → r = true) ∧ (1048576 < s.size + n → r = false)) ∧ w' = w := by
  by_cases h : s.size ≤ 1048576
  · by_cases h2 : n ≤ 1048576
    · by_cases h3 : s.size + n ≤ 1048576
      · go_enter Edtg.func28, Edtg.ntmps28
        go_wp2
        go_ret
        exact ⟨⟨_, rfl, fun _ => rfl, fun h' => absurd h' (by omega)⟩, rfl⟩
      · go_enter Edtg.func28, Edtg.ntmps28
        go_wp2
        go_ret
        exact ⟨⟨_, rfl, fun h' => absurd h' h3, fun _ => rfl⟩, rfl⟩
    · go_enter Edtg.func28, Edtg.ntmps28
      go_wp2
      go_ret
      exact ⟨⟨_, rfl, fun h' => absurd h' (by omega), fun _ => rfl⟩, rfl⟩
  · go_enter Edtg.func28, Edtg.ntmps28
    go_wp2
    go_ret
    exact ⟨⟨_, rfl, fun h' => absurd h' (by omega), fun _ => rfl⟩, rfl⟩

set_option maxHeartbeats 400000 in
theorem bytes30_any (s : ByteArray) (a b : Int) (ao : Option Addr) (n cap : Nat) (c : Int) (d : Int) (w : World) (hs : s.size ≤ 9223372036854775807) (hn : n ≤ 9223372036854775807) :
    Calls Edtg.prog 30 #[.string s, .int .i64 a, .int .i64 b, .slice ao n cap, .int .i64 c, .int .i64 d] w fun e w' => (∃ r, e = .returned (.bool r) ∧ (s.size + n ≤ 1048576 → r = true) ∧ (1048576 < s.size + n → r = false)) ∧ w' = w := by
  by_cases h : s.size ≤ 1048576
  · by_cases h2 : n ≤ 1048576
    · by_cases h3 : s.size + n ≤ 1048576
      · go_enter Edtg.func30, Edtg.ntmps30
        go_wp2
        go_ret
        exact ⟨⟨_, rfl, fun _ => rfl, fun h' => absurd h' (by omega)⟩, rfl⟩
      · go_enter Edtg.func30, Edtg.ntmps30
        go_wp2
        go_ret
        exact ⟨⟨_, rfl, fun h' => absurd h' h3, fun _ => rfl⟩, rfl⟩
    · go_enter Edtg.func30, Edtg.ntmps30
      go_wp2
      go_ret
      exact ⟨⟨_, rfl, fun h' => absurd h' (by omega), fun _ => rfl⟩, rfl⟩
  · go_enter Edtg.func30, Edtg.ntmps30
    go_wp2
    go_ret
    exact ⟨⟨_, rfl, fun h' => absurd h' (by omega), fun _ => rfl⟩, rfl⟩

end Go.Proofs.Yoedtw
