/-
  FnUnpackMonotone walked.
-/
import Derived.Test.YoedtwPos
import Derived.Test.YoedtwBytes
namespace Go.Proofs.Yoedtw
open Go.RowKit

theorem Pl.Good.col_le {size : Int} {ls : List Int} (g : Pl.Good size ls) {x : Int} (h : 1 ≤ Pl.lineOf ls x) : Pl.colOf ls x ≤ x + 1 := by
  rw [Pl.colOf_pos h]
  have := g.low (Pl.lineOf ls x - 1) (by have := g.line_le x; omega)
  omega
theorem Pl.col_diff {ls : List Int} {x y : Int} (h : Pl.lineOf ls x = Pl.lineOf ls y) (h1 : 1 ≤ Pl.lineOf ls x) : Pl.colOf ls y - Pl.colOf ls x = y - x := by
  rw [Pl.colOf_pos h1, Pl.colOf_pos (h ▸ h1), h]
  omega

set_option maxHeartbeats 2000000 in
theorem walk10_up (s : ByteArray) (base size : Int) (a : Option Addr) (n cap : Nat) (o1 o2 : Int) (zs : List Int) (w : World) (hn : Hid (zs.length = n)) (hrow : Hid (RowIn w w.heap.size a zs))
    (hsz : s.size + 8 * n ≤ 1048576) (hn1 : n ≤ 131072) (h1 : 1 ≤ base) (h2 : base ≤ 536870912) (h3 : 0 ≤ size) (h4 : size ≤ 536870912) (h5 : -1073741824 ≤ o1) (h6 : o1 ≤ 1073741824) (h7 : -1073741824 ≤ o2) (h8 : o2 ≤ 1073741824) (h9 : o1 ≤ o2) :
    Calls Edtg.prog 10 #[.string s, .int .i64 base, .int .i64 size, .slice a n cap, .int .i64 o1, .int .i64 o2] w fun e w' => e = .returned (.bool true) ∧ Below w.heap.size w w' := by
  go_enter Edtg.func10, Edtg.ntmps10
  go_wp2_with fail
  refine (bytes30_any s base size a n cap o1 o2 _ (by omega) (by omega)).mono ?_
  rintro e w1 ⟨⟨r, rfl, hr, _⟩, rfl⟩
  obtain rfl := hr (by omega)
  clear hr
  go_wp2_with fail
  refine (copy_any a cap n zs _ hn.out (by omega) hrow.out).mono ?_
  rintro e w2 ⟨a2, cap2, rfl, hrow2, b2⟩
  have HR2 := hid hrow2
  clear hrow2
  go_wp2_with fail
  refine (build_any s base size a2 cap2 n zs _ hn.out (by omega) HR2.out h1 h2 h3 h4).mono ?_
  rintro e w3 ⟨fb, v, rfl, F3, b3⟩
  have b3 := b2.trans (b3.mono b2.size)
  have G := Pl.built_good size zs h3
  have hl := Pl.built_len size zs
  rw [hn.out] at hl
  obtain ⟨ls, hls⟩ : ∃ ls, Pl.built size zs = ls := ⟨_, rfl⟩
  rw [hls] at F3 G hl
  clear hls b2 HR2 hrow
  go_wp2_with fail
  refine (zzunpack_any _ o1 F3 G h4 (by omega) (by omega) (by omega)).mono ?_
  rintro e w4 ⟨rfl, bb⟩
  have F4 := F3.below bb
  have b4 := b3.trans (bb.mono b3.size)
  clear F3 b3 bb
  go_wp2_with fail
  refine (zzunpack_any _ o2 F4 G h4 (by omega) (by omega) (by omega)).mono ?_
  rintro e w5 ⟨rfl, bb⟩
  have F5 := F4.below bb
  have b5 := b4.trans (bb.mono b4.size)
  clear F4 b4 bb
  obtain ⟨gg, cc, rfl, _, _, _, _⟩ := F5.out G.pos
  have c4 := F5.c4
  go_wp2_with fail
  refine (lineCount_any fb gg ls.length cc _ c4).mono ?_
  rintro e w6 ⟨rfl, hw⟩
  subst hw
  clear F5 c4
  have m1 := G.line_mono (show o1 ≤ o2 by omega)
  have m2 := G.line_le o2
  by_cases hz : Pl.lineOf ls o1 = 0
  · have hcz := Pl.colOf_zero hz
    rw [hz, hcz]
    clear hz hcz m1
    go_wp2_with fail
    all_goals go_ret
    all_goals exact ⟨rfl, b5⟩
  · have p1 : 1 ≤ Pl.lineOf ls o1 := by omega
    have p2 : 1 ≤ Pl.lineOf ls o2 := by omega
    have k1 := G.col_ge p1
    have k2 := G.col_le p1
    have k3 := G.col_ge p2
    have k4 := G.col_le p2
    have z1 : ((Pl.lineOf ls o1 : Int) == 0) = false := by simp; omega
    by_cases he : Pl.lineOf ls o1 = Pl.lineOf ls o2
    · have hd := Pl.col_diff he p1
      have hb : (Pl.colOf ls o2 - Pl.colOf ls o1 != o2 - o1) = false := by simp; omega
      have z2 : ((Pl.lineOf ls o1 : Int) == (Pl.lineOf ls o2 : Int)) = true := by simp; omega
      clear he hd
      go_wp2_with fail
      all_goals go_ret
      all_goals exact ⟨rfl, b5⟩
    · have z2 : ((Pl.lineOf ls o1 : Int) == (Pl.lineOf ls o2 : Int)) = false := by simp; omega
      clear he
      go_wp2_with fail
      all_goals go_ret
      all_goals exact ⟨rfl, b5⟩

set_option maxHeartbeats 2000000 in
theorem walk10_down (s : ByteArray) (base size : Int) (a : Option Addr) (n cap : Nat) (o1 o2 : Int) (zs : List Int) (w : World) (hn : Hid (zs.length = n)) (hrow : Hid (RowIn w w.heap.size a zs))
    (hsz : s.size + 8 * n ≤ 1048576) (hn1 : n ≤ 131072) (h1 : 1 ≤ base) (h2 : base ≤ 536870912) (h3 : 0 ≤ size) (h4 : size ≤ 536870912) (h5 : -1073741824 ≤ o1) (h6 : o1 ≤ 1073741824) (h7 : -1073741824 ≤ o2) (h8 : o2 ≤ 1073741824) (h9 : o2 < o1) :
    Calls Edtg.prog 10 #[.string s, .int .i64 base, .int .i64 size, .slice a n cap, .int .i64 o1, .int .i64 o2] w fun e w' => e = .returned (.bool true) ∧ Below w.heap.size w w' := by
  go_enter Edtg.func10, Edtg.ntmps10
  go_wp2_with fail
  refine (bytes30_any s base size a n cap o1 o2 _ (by omega) (by omega)).mono ?_
  rintro e w1 ⟨⟨r, rfl, hr, _⟩, rfl⟩
  obtain rfl := hr (by omega)
  clear hr
  go_wp2_with fail
  refine (copy_any a cap n zs _ hn.out (by omega) hrow.out).mono ?_
  rintro e w2 ⟨a2, cap2, rfl, hrow2, b2⟩
  have HR2 := hid hrow2
  clear hrow2
  go_wp2_with fail
  refine (build_any s base size a2 cap2 n zs _ hn.out (by omega) HR2.out h1 h2 h3 h4).mono ?_
  rintro e w3 ⟨fb, v, rfl, F3, b3⟩
  have b3 := b2.trans (b3.mono b2.size)
  have G := Pl.built_good size zs h3
  have hl := Pl.built_len size zs
  rw [hn.out] at hl
  obtain ⟨ls, hls⟩ : ∃ ls, Pl.built size zs = ls := ⟨_, rfl⟩
  rw [hls] at F3 G hl
  clear hls b2 HR2 hrow
  go_wp2_with fail
  refine (zzunpack_any _ o2 F3 G h4 (by omega) (by omega) (by omega)).mono ?_
  rintro e w4 ⟨rfl, bb⟩
  have F4 := F3.below bb
  have b4 := b3.trans (bb.mono b3.size)
  clear F3 b3 bb
  go_wp2_with fail
  refine (zzunpack_any _ o1 F4 G h4 (by omega) (by omega) (by omega)).mono ?_
  rintro e w5 ⟨rfl, bb⟩
  have F5 := F4.below bb
  have b5 := b4.trans (bb.mono b4.size)
  clear F4 b4 bb
  obtain ⟨gg, cc, rfl, _, _, _, _⟩ := F5.out G.pos
  have c4 := F5.c4
  go_wp2_with fail
  refine (lineCount_any fb gg ls.length cc _ c4).mono ?_
  rintro e w6 ⟨rfl, hw⟩
  subst hw
  clear F5 c4
  have m1 := G.line_mono (show o2 ≤ o1 by omega)
  have m2 := G.line_le o1
  by_cases hz : Pl.lineOf ls o2 = 0
  · have hcz := Pl.colOf_zero hz
    rw [hz, hcz]
    clear hz hcz m1
    go_wp2_with fail
    all_goals go_ret
    all_goals exact ⟨rfl, b5⟩
  · have p1 : 1 ≤ Pl.lineOf ls o2 := by omega
    have p2 : 1 ≤ Pl.lineOf ls o1 := by omega
    have k1 := G.col_ge p1
    have k2 := G.col_le p1
    have k3 := G.col_ge p2
    have k4 := G.col_le p2
    have z1 : ((Pl.lineOf ls o2 : Int) == 0) = false := by simp; omega
    by_cases he : Pl.lineOf ls o2 = Pl.lineOf ls o1
    · have hd := Pl.col_diff he p1
      have hb : (Pl.colOf ls o1 - Pl.colOf ls o2 != o1 - o2) = false := by simp; omega
      have z2 : ((Pl.lineOf ls o2 : Int) == (Pl.lineOf ls o1 : Int)) = true := by simp; omega
      clear he hd
      go_wp2_with fail
      all_goals go_ret
      all_goals exact ⟨rfl, b5⟩
    · have z2 : ((Pl.lineOf ls o2 : Int) == (Pl.lineOf ls o1 : Int)) = false := by simp; omega
      clear he
      go_wp2_with fail
      all_goals go_ret
      all_goals exact ⟨rfl, b5⟩

theorem walk10_good (s : ByteArray) (base size : Int) (a : Option Addr) (n cap : Nat) (o1 o2 : Int) (zs : List Int) (w : World) (hn : Hid (zs.length = n)) (hrow : Hid (RowIn w w.heap.size a zs))
    (hsz : s.size + 8 * n ≤ 1048576) (hn1 : n ≤ 131072) (h1 : 1 ≤ base) (h2 : base ≤ 536870912) (h3 : 0 ≤ size) (h4 : size ≤ 536870912) (h5 : -1073741824 ≤ o1) (h6 : o1 ≤ 1073741824) (h7 : -1073741824 ≤ o2) (h8 : o2 ≤ 1073741824) :
    Calls Edtg.prog 10 #[.string s, .int .i64 base, .int .i64 size, .slice a n cap, .int .i64 o1, .int .i64 o2] w fun e w' => e = .returned (.bool true) ∧ Below w.heap.size w w' := by
  by_cases h9 : o1 ≤ o2
  · exact walk10_up s base size a n cap o1 o2 zs w hn hrow hsz hn1 h1 h2 h3 h4 h5 h6 h7 h8 h9
  · exact walk10_down s base size a n cap o1 o2 zs w hn hrow hsz hn1 h1 h2 h3 h4 h5 h6 h7 h8 (by omega)

end Go.Proofs.Yoedtw
