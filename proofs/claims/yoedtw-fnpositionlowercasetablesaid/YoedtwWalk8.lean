/-
  FnPositionLowerCaseTable walked.
-/
import Derived.Test.YoedtwPos
import Derived.Test.YoedtwBytes
namespace Go.Proofs.Yoedtw
open Go.RowKit

set_option maxHeartbeats 2000000 in
theorem walk8_low (s : ByteArray) (base size : Int) (a : Option Addr) (n cap : Nat) (p : Int) (zs : List Int) (w : World) (hn : Hid (zs.length = n)) (hrow : Hid (RowIn w w.heap.size a zs))
    (hsz : s.size + 8 * n ≤ 1048576) (hn1 : n ≤ 131072) (h1 : 1 ≤ base) (h2 : base ≤ 536870912) (h3 : 0 ≤ size) (h4 : size ≤ 536870912) (h5 : -1073741824 ≤ p) (h6 : p ≤ 1073741824) (h7 : p < base) :
    Calls Edtg.prog 8 #[.string s, .int .i64 base, .int .i64 size, .slice a n cap, .int .i64 p] w fun e w' => e = .returned (.bool true) ∧ Below w.heap.size w w' := by
  go_enter Edtg.func8, Edtg.ntmps8
  go_wp2_with fail
  refine (bytes27_any s base size a n cap p _ (by omega) (by omega)).mono ?_
  rintro e w1 ⟨⟨r, rfl, hr, _⟩, rfl⟩
  obtain rfl := hr (by omega)
  clear hr
  go_wp2_with fail
  refine (copy_any a cap n zs _ hn.out (by omega) hrow.out).mono ?_
  rintro e w2 ⟨a2, cap2, rfl, hrow2, b2⟩
  have HR2 := hid hrow2
  clear hrow2
  go_wp2_with fail
  refine (build_any s base size a2 cap2 n zs _ hn.out (by omega) HR2.out h1 h2 h3 h4).mono ?_
  rintro e w3 ⟨fb, v, rfl, F3, b3⟩
  have b3 := b2.trans (b3.mono b2.size)
  have G := Pl.built_good size zs h3
  have hl := Pl.built_len size zs
  rw [hn.out] at hl
  obtain ⟨ls, hls⟩ : ∃ ls, Pl.built size zs = ls := ⟨_, rfl⟩
  rw [hls] at F3 G hl
  clear hls b2 HR2 hrow
  go_wp2_with fail
  refine (zzposition_any _ p F3 G h4 (by omega) h1 h2 h5 h6).mono ?_
  rintro e w4 ⟨rfl, bb⟩
  have F4 := F3.below bb
  have b4 := b3.trans (bb.mono b3.size)
  clear F3 b3 bb
  have hL := G.line_zero (show p - base < 0 by omega)
  have hC := Pl.colOf_zero hL
  rw [hL, hC]
  clear hL hC
  go_wp2_with fail
  go_ret
  exact ⟨rfl, b4.alloc b4.size _⟩

set_option maxHeartbeats 2000000 in
theorem walk8_mid (s : ByteArray) (base size : Int) (a : Option Addr) (n cap : Nat) (p : Int) (zs : List Int) (w : World) (hn : Hid (zs.length = n)) (hrow : Hid (RowIn w w.heap.size a zs))
    (hsz : s.size + 8 * n ≤ 1048576) (hn1 : n ≤ 131072) (h1 : 1 ≤ base) (h2 : base ≤ 536870912) (h3 : 0 ≤ size) (h4 : size ≤ 536870912) (h5 : -1073741824 ≤ p) (h6 : p ≤ 1073741824) (h7 : base ≤ p) (h8 : p ≤ base + size) :
    Calls Edtg.prog 8 #[.string s, .int .i64 base, .int .i64 size, .slice a n cap, .int .i64 p] w fun e w' => e = .returned (.bool true) ∧ Below w.heap.size w w' := by
  go_enter Edtg.func8, Edtg.ntmps8
  go_wp2_with fail
  refine (bytes27_any s base size a n cap p _ (by omega) (by omega)).mono ?_
  rintro e w1 ⟨⟨r, rfl, hr, _⟩, rfl⟩
  obtain rfl := hr (by omega)
  clear hr
  go_wp2_with fail
  refine (copy_any a cap n zs _ hn.out (by omega) hrow.out).mono ?_
  rintro e w2 ⟨a2, cap2, rfl, hrow2, b2⟩
  have HR2 := hid hrow2
  clear hrow2
  go_wp2_with fail
  refine (build_any s base size a2 cap2 n zs _ hn.out (by omega) HR2.out h1 h2 h3 h4).mono ?_
  rintro e w3 ⟨fb, v, rfl, F3, b3⟩
  have b3 := b2.trans (b3.mono b2.size)
  have G := Pl.built_good size zs h3
  have hl := Pl.built_len size zs
  rw [hn.out] at hl
  obtain ⟨ls, hls⟩ : ∃ ls, Pl.built size zs = ls := ⟨_, rfl⟩
  rw [hls] at F3 G hl
  clear hls b2 HR2 hrow
  go_wp2_with fail
  refine (zzposition_any _ p F3 G h4 (by omega) h1 h2 h5 h6).mono ?_
  rintro e w4 ⟨rfl, bb⟩
  have F4 := F3.below bb
  have b4 := b3.trans (bb.mono b3.size)
  clear F3 b3 bb
  have hL : 1 ≤ Pl.lineOf ls (p - base) := G.line_pos (by omega)
  go_wp2_with fail
  refine (Position_any _ p (F4.below ((Below.refl _ _).alloc (Nat.le_refl _) _)) G h3 h4 (by omega) h1 h2 h7 h8).mono ?_
  rintro e w5 ⟨rfl, bb⟩
  have hx : w4.heap.size < w5.heap.size := by have := bb.size; simp at this; omega
  have hc : ∀ j, w5.cell? ⟨w4.heap.size, j, none⟩ = _ := fun j => bb.cell (p := ⟨w4.heap.size, j, none⟩) (by simp)
  have d0 := hc 0
  have d1 := hc 1
  have d2 := hc 2
  have d3 := hc 3
  clear hc
  simp at d0 d1 d2 d3
  have b5 := (b4.alloc b4.size _).trans (bb.mono (by have := b4.size; simp; omega))
  clear bb F4 b4
  generalize w4.heap.size = xb at *
  go_wp2_with fail
  go_ret
  exact ⟨rfl, b5.alloc b5.size _⟩

set_option maxHeartbeats 2000000 in
theorem walk8_high (s : ByteArray) (base size : Int) (a : Option Addr) (n cap : Nat) (p : Int) (zs : List Int) (w : World) (hn : Hid (zs.length = n)) (hrow : Hid (RowIn w w.heap.size a zs))
    (hsz : s.size + 8 * n ≤ 1048576) (hn1 : n ≤ 131072) (h1 : 1 ≤ base) (h2 : base ≤ 536870912) (h3 : 0 ≤ size) (h4 : size ≤ 536870912) (h5 : -1073741824 ≤ p) (h6 : p ≤ 1073741824) (h7 : base + size < p) :
    Calls Edtg.prog 8 #[.string s, .int .i64 base, .int .i64 size, .slice a n cap, .int .i64 p] w fun e w' => e = .returned (.bool true) ∧ Below w.heap.size w w' := by
  go_enter Edtg.func8, Edtg.ntmps8
  go_wp2_with fail
  refine (bytes27_any s base size a n cap p _ (by omega) (by omega)).mono ?_
  rintro e w1 ⟨⟨r, rfl, hr, _⟩, rfl⟩
  obtain rfl := hr (by omega)
  clear hr
  go_wp2_with fail
  refine (copy_any a cap n zs _ hn.out (by omega) hrow.out).mono ?_
  rintro e w2 ⟨a2, cap2, rfl, hrow2, b2⟩
  have HR2 := hid hrow2
  clear hrow2
  go_wp2_with fail
  refine (build_any s base size a2 cap2 n zs _ hn.out (by omega) HR2.out h1 h2 h3 h4).mono ?_
  rintro e w3 ⟨fb, v, rfl, F3, b3⟩
  have b3 := b2.trans (b3.mono b2.size)
  have G := Pl.built_good size zs h3
  have hl := Pl.built_len size zs
  rw [hn.out] at hl
  obtain ⟨ls, hls⟩ : ∃ ls, Pl.built size zs = ls := ⟨_, rfl⟩
  rw [hls] at F3 G hl
  clear hls b2 HR2 hrow
  go_wp2_with fail
  refine (zzposition_any _ p F3 G h4 (by omega) h1 h2 h5 h6).mono ?_
  rintro e w4 ⟨rfl, bb⟩
  have F4 := F3.below bb
  have b4 := b3.trans (bb.mono b3.size)
  clear F3 b3 bb
  obtain ⟨gg, cc, rfl, _, hgs, _, hc⟩ := F4.out G.pos
  have HC := hid hc
  have c4 := F4.c4
  have hfb := F4.hi
  clear hc
  go_wp2_with fail
  refine (lineCount_any fb gg ls.length cc _ (by rw [World.cell?_alloc_past _ _ _ hfb]; exact c4)).mono ?_
  rintro e w5 ⟨rfl, hw⟩
  have bb : Below w4.heap.size w4 w5 := by rw [hw]; exact (Below.refl _ _).alloc (Nat.le_refl _) _
  have d2 : w5.cell? ⟨w4.heap.size, 2, none⟩ = some (.int .i64 (Pl.lineOf ls (p - base))) := by rw [hw]; exact World.cell?_alloc_at _ _ _ _ rfl
  have d3 : w5.cell? ⟨w4.heap.size, 3, none⟩ = some (.int .i64 (Pl.colOf ls (p - base))) := by rw [hw]; exact World.cell?_alloc_at _ _ _ _ rfl
  have l2 := G.line_all (show size ≤ p - base by omega)
  have k2 := Pl.colOf_pos (ls := ls) (x := p - base) (by have := G.pos; omega)
  rw [l2] at k2
  have hb0 : ((Pl.lineOf ls (p - base) : Int) != (ls.length : Int)) = false := by rw [l2]; simp
  have z1 := G.low (ls.length - 1) (by have := G.pos; omega)
  have z2 := G.high (ls.length - 1) (by have := G.pos; omega)
  have hp := G.pos
  clear l2
  have F5 := F4.below bb
  have b5 := b4.trans (bb.mono b4.size)
  have hcell := (bb.cell (p := ⟨gg, ls.length - 1, none⟩) hgs).trans (HC.out (ls.length - 1) (by omega))
  have j2 := F5.c2
  have j4 := F5.c4
  clear hw bb F4 F5 HC c4 b4 hfb hgs
  generalize w4.heap.size = xb at *
  generalize Pl.colOf ls (p - base) = C at *
  generalize ls.getD (ls.length - 1) 0 = z at *
  have hb1 : (C == p - (base + z) + 1) = true := by simp; omega
  have k3 : 2 ≤ C := by omega
  have k4 : C ≤ 1073741825 := by omega
  clear k2
  go_wp2
  go_quiet ((go_at_call 24; exact Calls.quiet_of (lineStart_any fb gg ls.length cc base z (ls.length : Int) _ (by omega) (by omega) (by omega) h1 h2 z1 (by omega) j2 j4 hcell)))
  go_wp2_with fail
  go_ret
  exact ⟨rfl, below_drewN b5 _⟩

theorem walk8_good (s : ByteArray) (base size : Int) (a : Option Addr) (n cap : Nat) (p : Int) (zs : List Int) (w : World) (hn : Hid (zs.length = n)) (hrow : Hid (RowIn w w.heap.size a zs))
    (hsz : s.size + 8 * n ≤ 1048576) (hn1 : n ≤ 131072) (h1 : 1 ≤ base) (h2 : base ≤ 536870912) (h3 : 0 ≤ size) (h4 : size ≤ 536870912) (h5 : -1073741824 ≤ p) (h6 : p ≤ 1073741824) :
    Calls Edtg.prog 8 #[.string s, .int .i64 base, .int .i64 size, .slice a n cap, .int .i64 p] w fun e w' => e = .returned (.bool true) ∧ Below w.heap.size w w' := by
  by_cases h7 : p < base
  · exact walk8_low s base size a n cap p zs w hn hrow hsz hn1 h1 h2 h3 h4 h5 h6 h7
  by_cases h8 : p ≤ base + size
  · exact walk8_mid s base size a n cap p zs w hn hrow hsz hn1 h1 h2 h3 h4 h5 h6 (by omega) h8
  · exact walk8_high s base size a n cap p zs w hn hrow hsz hn1 h1 h2 h3 h4 h5 h6 (by omega)

end Go.Proofs.Yoedtw
