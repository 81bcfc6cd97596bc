/-
  FnPositionMatchesLineModel walked.
-/
import Derived.Test.YoedtwPos
import Derived.Test.YoedtwBytes
namespace Go.Proofs.Yoedtw
open Go.RowKit

set_option maxHeartbeats 2000000 in
theorem walk5_zero (s : ByteArray) (base size : Int) (a : Option Addr) (n cap : Nat) (zs : List Int) (w : World) (hn : Hid (zs.length = n)) (hrow : Hid (RowIn w w.heap.size a zs))
    (hsz : s.size + 8 * n ≤ 1048576) (hn1 : n ≤ 131072) (h1 : 1 ≤ base) (h2 : base ≤ 536870912) (h3 : 0 ≤ size) (h4 : size ≤ 536870912) :
    Calls Edtg.prog 5 #[.string s, .int .i64 base, .int .i64 size, .slice a n cap, .int .i64 0] w fun e w' => e = .returned (.bool true) ∧ Below w.heap.size w w' := by
  go_enter Edtg.func5, Edtg.ntmps5
  go_wp2_with fail
  refine (bytes18_any s base size a n cap 0 _ (by omega) (by omega)).mono ?_
  rintro e w1 ⟨⟨r, rfl, hr, _⟩, rfl⟩
  obtain rfl := hr (by omega)
  clear hr
  go_wp2_with fail
  refine (copy_any a cap n zs _ hn.out (by omega) hrow.out).mono ?_
  rintro e w2 ⟨a2, cap2, rfl, hrow2, b2⟩
  have HR2 := hid hrow2
  clear hrow2
  go_wp2_with fail
  refine (build_any s base size a2 cap2 n zs _ hn.out (by omega) HR2.out h1 h2 h3 h4).mono ?_
  rintro e w3 ⟨fb, v, rfl, F3, b3⟩
  have b3 := b2.trans (b3.mono b2.size)
  have G := Pl.built_good size zs h3
  have hl := Pl.built_len size zs
  rw [hn.out] at hl
  obtain ⟨ls, hls⟩ : ∃ ls, Pl.built size zs = ls := ⟨_, rfl⟩
  rw [hls] at F3 G hl
  clear hls b2 HR2 hrow
  go_wp2_with fail
  refine (Position_zero fb _).mono ?_
  rintro e w4 ⟨rfl, bb⟩
  have b4 := b3.trans (bb.mono b3.size)
  clear F3 b3 bb
  go_wp2_with fail
  go_ret
  exact ⟨rfl, b4.alloc b4.size _⟩

set_option maxHeartbeats 2000000 in
theorem walk5_good (s : ByteArray) (base size : Int) (a : Option Addr) (n cap : Nat) (p : Int) (zs : List Int) (w : World) (hn : Hid (zs.length = n)) (hrow : Hid (RowIn w w.heap.size a zs))
    (hsz : s.size + 8 * n ≤ 1048576) (hn1 : n ≤ 131072) (h1 : 1 ≤ base) (h2 : base ≤ 536870912) (h3 : 0 ≤ size) (h4 : size ≤ 536870912) (h5 : base ≤ p) (h6 : p ≤ base + size) :
    Calls Edtg.prog 5 #[.string s, .int .i64 base, .int .i64 size, .slice a n cap, .int .i64 p] w fun e w' => e = .returned (.bool true) ∧ Below w.heap.size w w' := by
  have hp0 : (p != 0) = true := by simp; omega
  have hp1 : (p == 0) = false := by simp; omega
  go_enter Edtg.func5, Edtg.ntmps5
  go_wp2_with fail
  refine (bytes18_any s base size a n cap p _ (by omega) (by omega)).mono ?_
  rintro e w1 ⟨⟨r, rfl, hr, _⟩, rfl⟩
  obtain rfl := hr (by omega)
  clear hr
  go_wp2_with fail
  refine (copy_any a cap n zs _ hn.out (by omega) hrow.out).mono ?_
  rintro e w2 ⟨a2, cap2, rfl, hrow2, b2⟩
  have HR2 := hid hrow2
  clear hrow2
  go_wp2_with fail
  refine (build_any s base size a2 cap2 n zs _ hn.out (by omega) HR2.out h1 h2 h3 h4).mono ?_
  rintro e w3 ⟨fb, v, rfl, F3, b3⟩
  have b3 := b2.trans (b3.mono b2.size)
  have G := Pl.built_good size zs h3
  have hl := Pl.built_len size zs
  rw [hn.out] at hl
  obtain ⟨ls, hls⟩ : ∃ ls, Pl.built size zs = ls := ⟨_, rfl⟩
  rw [hls] at F3 G hl
  clear hls b2 HR2 hrow
  go_wp2_with fail
  refine (Position_any _ p F3 G h3 h4 (by omega) h1 h2 h5 h6).mono ?_
  rintro e w4 ⟨rfl, bb⟩
  have F4 := F3.below bb
  have b4 := b3.trans (bb.mono b3.size)
  have hL : 1 ≤ Pl.lineOf ls (p - base) := G.line_pos (by omega)
  clear F3 b3 bb
  obtain ⟨gg, cc, rfl, _, hgs, _, hc⟩ := F4.out G.pos
  have HC := hid hc
  have c4 := F4.c4
  have hfb := F4.hi
  clear hc
  go_wp2_with fail
  refine (modelLine_any gg ls.length cc ls (p - base) _ rfl (by omega) (by omega) (by omega) G.rise (fun i hi => ⟨G.low i hi, by have := G.high i hi; omega⟩) (by intro j hj; rw [World.cell?_alloc_past _ _ _ hgs]; exact HC.out j hj)).mono ?_
  rintro e w5 ⟨rfl, n5, rfl⟩
  clear F4 HC c4
  go_wp2_with fail
  go_ret
  exact ⟨rfl, below_drewN (b4.alloc b4.size _) _⟩

end Go.Proofs.Yoedtw
