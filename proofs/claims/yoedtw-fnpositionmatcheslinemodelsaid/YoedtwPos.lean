/-
  position, Position, ZZposition, ZZunpack.
-/
import Derived.Test.YoedtwCopy
namespace Go.Proofs.Yoedtw
open Go.RowKit

theorem hid {p : Prop} (h : p) : Hid p := h

set_option maxHeartbeats 400000 in
theorem zzunpack_any {B fb : Nat} {v : Value} {name : ByteArray} {base size : Int} {ls : List Int} (w : World) (x : Int) (hf : FileAt w B fb v name base size ls) (g : Pl.Good size ls) (hs : size ≤ 536870912) (hbig : ls.length ≤ 1048576) (hx1 : -2147483648 ≤ x) (hx2 : x ≤ 2147483648) :
    Calls Edtg.prog 29 #[.pointer (some ⟨fb, 0, none⟩), .int .i64 x] w fun e w' => e = .returned (.tuple #[.string name, .int .i64 (Pl.lineOf ls x), .int .i64 (Pl.colOf ls x)]) ∧ Below w.heap.size w w' := by
  go_enter Edtg.func29, Edtg.ntmps29
  go_wp2_with fail
  refine (unpack_any _ x hf g hs hbig hx1 hx2).mono ?_
  rintro e w1 ⟨rfl, hw⟩
  have bb := below_ex hw
  clear hw
  go_wp2
  go_ret3
  exact ⟨rfl, bb⟩

set_option maxHeartbeats 400000 in
theorem position_any {B fb : Nat} {v : Value} {name : ByteArray} {base size : Int} {ls : List Int} (w : World) (p : Int) (hf : FileAt w B fb v name base size ls) (g : Pl.Good size ls) (hs : size ≤ 536870912) (hbig : ls.length ≤ 1048576)
    (hb1 : 1 ≤ base) (hb2 : base ≤ 536870912) (hx1 : -1073741824 ≤ p) (hx2 : p ≤ 1073741824) :
    Calls Edtg.prog 32 #[.pointer (some ⟨fb, 0, none⟩), .int .i64 p] w fun e w' => e = .returned (.agg #[.string name, .int .i64 (p - base), .int .i64 (Pl.lineOf ls (p - base)), .int .i64 (Pl.colOf ls (p - base))]) ∧ Below w.heap.size w w' := by
  have c2 := hf.c2
  have hfb := hf.hi
  go_enter Edtg.func32, Edtg.ntmps32
  go_wp2_with fail
  refine (unpack_any _ (p - base) (hf.below ((Below.refl _ _).alloc (Nat.le_refl _) _)) g hs hbig (by omega) (by omega)).mono ?_
  rintro e w1 ⟨rfl, n1, rfl⟩
  go_wp2
  refine bodyPost_ret (v := .agg #[.string name, .int .i64 (p - base), .int .i64 (Pl.lineOf ls (p - base)), .int .i64 (Pl.colOf ls (p - base))]) (by simp [results, Edtg.results32, go_sem]) rfl ⟨rfl, ?_⟩
  exact (((below_drewN ((Below.refl _ _).alloc (Nat.le_refl _) _) _).setCell (Nat.le_refl _) _).setCell (Nat.le_refl _) _).setCell (Nat.le_refl _) _

set_option maxHeartbeats 400000 in
theorem zzposition_any {B fb : Nat} {v : Value} {name : ByteArray} {base size : Int} {ls : List Int} (w : World) (p : Int) (hf : FileAt w B fb v name base size ls) (g : Pl.Good size ls) (hs : size ≤ 536870912) (hbig : ls.length ≤ 1048576)
    (hb1 : 1 ≤ base) (hb2 : base ≤ 536870912) (hx1 : -1073741824 ≤ p) (hx2 : p ≤ 1073741824) :
    Calls Edtg.prog 26 #[.pointer (some ⟨fb, 0, none⟩), .int .i64 p] w fun e w' => e = .returned (.agg #[.string name, .int .i64 (p - base), .int .i64 (Pl.lineOf ls (p - base)), .int .i64 (Pl.colOf ls (p - base))]) ∧ Below w.heap.size w w' := by
  go_enter Edtg.func26, Edtg.ntmps26
  go_wp2_with fail
  refine (position_any _ p (hf.below ((Below.refl _ _).alloc (Nat.le_refl _) _)) g hs hbig hb1 hb2 hx1 hx2).mono ?_
  rintro e w1 ⟨rfl, bb⟩
  have bw := ((Below.refl w.heap.size w).alloc (Nat.le_refl _) _).trans (bb.mono (by simp))
  have hc : ∀ j, w1.cell? ⟨w.heap.size, j, none⟩ = _ := fun j => bb.cell (p := ⟨w.heap.size, j, none⟩) (by simp)
  have hfz : ∀ j, w1.frozen? ⟨w.heap.size, j, none⟩ = _ := fun j => bb.frozen (p := ⟨w.heap.size, j, none⟩) (by simp)
  have d0 := hc 0
  have d1 := hc 1
  have d2 := hc 2
  have d3 := hc 3
  have e0 := hfz 0
  have e1 := hfz 1
  have e2 := hfz 2
  have e3 := hfz 3
  clear hc hfz
  simp at d0 d1 d2 d3 e0 e1 e2 e3
  clear bb
  go_wp2
  refine bodyPost_ret (v := .agg #[.string name, .int .i64 (p - base), .int .i64 (Pl.lineOf ls (p - base)), .int .i64 (Pl.colOf ls (p - base))]) (by simp [results, Edtg.results26, go_sem, d0, d1, d2, d3]) rfl ⟨rfl, ?_⟩
  exact (((bw.setCell (Nat.le_refl _) _).setCell (Nat.le_refl _) _).setCell (Nat.le_refl _) _).setCell (Nat.le_refl _) _

set_option maxHeartbeats 400000 in
theorem Position_zero (fb : Nat) (w : World) :
    Calls Edtg.prog 20 #[.pointer (some ⟨fb, 0, none⟩), .int .i64 0] w fun e w' => e = .returned (.agg #[.string ⟨#[]⟩, .int .i64 0, .int .i64 0, .int .i64 0]) ∧ Below w.heap.size w w' := by
  go_enter Edtg.func20, Edtg.ntmps20
  go_wp2
  refine bodyPost_ret (v := .agg #[.string ⟨#[]⟩, .int .i64 0, .int .i64 0, .int .i64 0]) (by simp [results, Edtg.results20, go_sem]) rfl ⟨rfl, ?_⟩
  exact (Below.refl _ _).alloc (Nat.le_refl _) _

set_option maxHeartbeats 400000 in
theorem Position_any {B fb : Nat} {v : Value} {name : ByteArray} {base size : Int} {ls : List Int} (w : World) (p : Int) (hf : FileAt w B fb v name base size ls) (g : Pl.Good size ls) (hs0 : 0 ≤ size) (hs : size ≤ 536870912) (hbig : ls.length ≤ 1048576)
    (hb1 : 1 ≤ base) (hb2 : base ≤ 536870912) (hx1 : base ≤ p) (hx2 : p ≤ base + size) :
    Calls Edtg.prog 20 #[.pointer (some ⟨fb, 0, none⟩), .int .i64 p] w fun e w' => e = .returned (.agg #[.string name, .int .i64 (p - base), .int .i64 (Pl.lineOf ls (p - base)), .int .i64 (Pl.colOf ls (p - base))]) ∧ Below w.heap.size w w' := by
  have hd : decide (p < base) = false := decide_eq_false (by omega)
  have hp : (p != 0) = true := by simp; omega
  have c2 := hf.c2
  have c3 := hf.c3
  have hfb := hf.hi
  go_enter Edtg.func20, Edtg.ntmps20
  go_wp2
  go_quiet (fail)
  go_wp2_with fail
  refine (position_any _ p (hf.below (below_drewN ((Below.refl _ _).alloc (Nat.le_refl _) _) _)) g hs hbig hb1 hb2 (by omega) (by omega)).mono ?_
  rintro e w1 ⟨rfl, bb⟩
  have bw := (below_drewN ((Below.refl w.heap.size w).alloc (Nat.le_refl _) _) _).trans (bb.mono (by simp [World.drewN]))
  have hc : ∀ j, w1.cell? ⟨w.heap.size, j, none⟩ = _ := fun j => bb.cell (p := ⟨w.heap.size, j, none⟩) (by simp [World.drewN])
  have hfz : ∀ j, w1.frozen? ⟨w.heap.size, j, none⟩ = _ := fun j => bb.frozen (p := ⟨w.heap.size, j, none⟩) (by simp [World.drewN])
  have d0 := hc 0
  have d1 := hc 1
  have d2 := hc 2
  have d3 := hc 3
  have e0 := hfz 0
  have e1 := hfz 1
  have e2 := hfz 2
  have e3 := hfz 3
  clear hc hfz
  simp at d0 d1 d2 d3 e0 e1 e2 e3
  clear bb
  go_wp2
  refine bodyPost_ret (v := .agg #[.string name, .int .i64 (p - base), .int .i64 (Pl.lineOf ls (p - base)), .int .i64 (Pl.colOf ls (p - base))]) (by simp [results, Edtg.results20, go_sem, d0, d1, d2, d3]) rfl ⟨rfl, ?_⟩
  exact (((bw.setCell (Nat.le_refl _) _).setCell (Nat.le_refl _) _).setCell (Nat.le_refl _) _).setCell (Nat.le_refl _) _

end Go.Proofs.Yoedtw
