/-
  FnPositionAgreesWithLineStart walked.
-/
import Derived.Test.YoedtwPos
import Derived.Test.YoedtwBytes
namespace Go.Proofs.Yoedtw
open Go.RowKit

set_option maxHeartbeats 2000000 in
theorem walk6_good (s : ByteArray) (base size : Int) (a : Option Addr) (n cap : Nat) (p : Int) (zs : List Int) (w : World) (hn : Hid (zs.length = n)) (hrow : Hid (RowIn w w.heap.size a zs))
    (hsz : s.size + 8 * n ≤ 1048576) (hn1 : n ≤ 131072) (h1 : 1 ≤ base) (h2 : base ≤ 536870912) (h3 : 0 ≤ size) (h4 : size ≤ 536870912) (h5 : base ≤ p) (h6 : p ≤ base + size) :
    Calls Edtg.prog 6 #[.string s, .int .i64 base, .int .i64 size, .slice a n cap, .int .i64 p] w fun e w' => e = .returned (.bool true) ∧ Below w.heap.size w w' := by
  go_enter Edtg.func6, Edtg.ntmps6
  go_wp2_with fail
  refine (bytes22_any s base size a n cap p _ (by omega) (by omega)).mono ?_
  rintro e w1 ⟨⟨r, rfl, hr, _⟩, rfl⟩
  obtain rfl := hr (by omega)
  clear hr
  go_wp2_with fail
  refine (copy_any a cap n zs _ hn.out (by omega) hrow.out).mono ?_
  rintro e w2 ⟨a2, cap2, rfl, hrow2, b2⟩
  have HR2 := hid hrow2
  clear hrow2
  go_wp2_with fail
  refine (build_any s base size a2 cap2 n zs _ hn.out (by omega) HR2.out h1 h2 h3 h4).mono ?_
  rintro e w3 ⟨fb, v, rfl, F3, b3⟩
  have b3 := b2.trans (b3.mono b2.size)
  have G := Pl.built_good size zs h3
  have hl := Pl.built_len size zs
  rw [hn.out] at hl
  obtain ⟨ls, hls⟩ : ∃ ls, Pl.built size zs = ls := ⟨_, rfl⟩
  rw [hls] at F3 G hl
  clear hls b2 HR2 hrow
  go_wp2_with fail
  refine (Position_any _ p F3 G h3 h4 (by omega) h1 h2 h5 h6).mono ?_
  rintro e w4 ⟨rfl, bb⟩
  have F4 := F3.below bb
  have b4 := b3.trans (bb.mono b3.size)
  clear F3 b3 bb
  obtain ⟨gg, cc, rfl, _, hgs, _, hc⟩ := F4.out G.pos
  have HC := hid hc
  have c4 := F4.c4
  have hfb := F4.hi
  clear hc
  go_wp2_with fail
  refine (lineCount_any fb gg ls.length cc _ (by rw [World.cell?_alloc_past _ _ _ hfb]; exact c4)).mono ?_
  rintro e w5 ⟨rfl, hw⟩
  have bb : Below w4.heap.size w4 w5 := by rw [hw]; exact (Below.refl _ _).alloc (Nat.le_refl _) _
  have d2 : w5.cell? ⟨w4.heap.size, 2, none⟩ = some (.int .i64 (Pl.lineOf ls (p - base))) := by rw [hw]; exact World.cell?_alloc_at _ _ _ _ rfl
  have d3 : w5.cell? ⟨w4.heap.size, 3, none⟩ = some (.int .i64 (Pl.colOf ls (p - base))) := by rw [hw]; exact World.cell?_alloc_at _ _ _ _ rfl
  have F5 := F4.below bb
  have b5 := b4.trans (bb.mono b4.size)
  have HC5 : Hid (∀ j, j < ls.length → w5.cell? ⟨gg, j, none⟩ = some (.int .i64 (ls.getD j 0))) := fun j hj => (bb.cell (p := ⟨gg, j, none⟩) hgs).trans (HC.out j hj)
  have j2 := F5.c2
  have j4 := F5.c4
  clear hw bb F4 F5 HC c4 b4 hfb hgs
  generalize w4.heap.size = xb at *
  have pa := G.parts (p - base)
  have l1 : 1 ≤ Pl.lineOf ls (p - base) := G.line_pos (by omega)
  have l2 := G.line_le (p - base)
  have k1 := G.col_ge l1
  have k2 := Pl.colOf_pos l1
  have HP := hid pa.no
  generalize Pl.colOf ls (p - base) = C at *
  generalize Pl.lineOf ls (p - base) = L at *
  have hcell := HC5.out (L - 1) (by omega)
  have z1 := G.low (L - 1) (by omega)
  have z2 := G.high (L - 1) (by omega)
  generalize ls.getD (L - 1) 0 = z at *
  have k3 : C ≤ 1073741825 := by omega
  have hb : (base + z + C - 1 != p) = false := by simp; omega
  clear k2 pa
  by_cases ht : L < ls.length
  · have hcell2 := HC5.out L ht
    have y1 := G.low L ht
    have y2 := G.high L ht
    have y3 := HP.out L (Nat.le_refl _) ht
    generalize ls.getD L 0 = y at *
    go_wp2
    go_quiet ((go_at_call 24; exact Calls.quiet_of (lineStart_any fb gg ls.length cc base z (L : Int) _ (by omega) (by omega) (by omega) h1 h2 z1 (by omega) j2 j4 hcell)))
    go_wp2_with fail
    refine (lineStart_any fb gg ls.length cc base y ((L : Int) + 1) _ (by omega) (by omega) (by omega) h1 h2 y1 (by omega) (by exact j2) (by exact j4) (by rw [show ((L : Int) + 1).toNat - 1 = L from by omega]; exact hcell2)).mono ?_
    rintro e w6 ⟨rfl, hw⟩
    have b6 : Below w1.heap.size w1 w6 := by
      obtain ⟨m, rfl⟩ := hw
      exact below_drewN (below_drewN b5 _) _
    go_wp2_with fail
    go_ret
    exact ⟨rfl, b6⟩
  · go_wp2
    go_quiet ((go_at_call 24; exact Calls.quiet_of (lineStart_any fb gg ls.length cc base z (L : Int) _ (by omega) (by omega) (by omega) h1 h2 z1 (by omega) j2 j4 hcell)))
    go_wp2_with fail
    go_ret
    exact ⟨rfl, below_drewN b5 _⟩

end Go.Proofs.Yoedtw
