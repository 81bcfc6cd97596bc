/-
  A FILE IN MEMORY: 'FileAt w B fb v name base size ls': block fb (from B on) is a SourceFile with these fields; its table v is a row of the call's own (from B on) that holds ls. And the functions that read one: LineCount, LineStart, unpack.
-/
import Derived.Test.YoedtwSearch
namespace Go.Proofs.Yoedtw
open Go.RowKit

structure FileAt (w : World) (B fb : Nat) (v : Value) (name : ByteArray) (base size : Int) (ls : List Int) : Prop where
  lo : B ≤ fb
  blk : ∃ s, w.heap[fb]? = some (.cells #[s, .string name, .int .i64 base, .int .i64 size, v] 42 (0, 0))
  own : w.ownsRow B 3 1 v ls.length (ls.map (Value.int .i64))

section
variable {w : World} {B fb : Nat} {v : Value} {name : ByteArray} {base size : Int} {ls : List Int}

theorem FileAt.c1 (h : FileAt w B fb v name base size ls) : w.cell? ⟨fb, 1, none⟩ = some (.string name) := by
  obtain ⟨s, hs⟩ := h.blk; rw [cell_of_row w fb 1 _ 42 _ hs]; rfl
theorem FileAt.c2 (h : FileAt w B fb v name base size ls) : w.cell? ⟨fb, 2, none⟩ = some (.int .i64 base) := by
  obtain ⟨s, hs⟩ := h.blk; rw [cell_of_row w fb 2 _ 42 _ hs]; rfl
theorem FileAt.c3 (h : FileAt w B fb v name base size ls) : w.cell? ⟨fb, 3, none⟩ = some (.int .i64 size) := by
  obtain ⟨s, hs⟩ := h.blk; rw [cell_of_row w fb 3 _ 42 _ hs]; rfl
theorem FileAt.c4 (h : FileAt w B fb v name base size ls) : w.cell? ⟨fb, 4, none⟩ = some v := by
  obtain ⟨s, hs⟩ := h.blk; rw [cell_of_row w fb 4 _ 42 _ hs]; rfl
theorem FileAt.f4 (h : FileAt w B fb v name base size ls) : w.frozen? ⟨fb, 4, none⟩ = false := by
  obtain ⟨s, hs⟩ := h.blk; exact frozen_of_row w fb 4 _ 42 hs
theorem FileAt.hi (h : FileAt w B fb v name base size ls) : fb < w.heap.size := by
  obtain ⟨s, hs⟩ := h.blk; exact (Array.getElem?_eq_some_iff.1 hs).1

/-- The table's value written out. -/
theorem FileAt.out (h : FileAt w B fb v name base size ls) (hp : 0 < ls.length) : ∃ g cap, v = .slice (some ⟨g, 0, none⟩) ls.length cap ∧ B ≤ g ∧ g < w.heap.size ∧ g ≠ fb ∧
    ∀ j, j < ls.length → w.cell? ⟨g, j, none⟩ = some (.int .i64 (ls.getD j 0)) := by
  rcases h.own.2 with ⟨_, h0⟩ | ⟨g, cap, cur, rfl, hb, hg, _⟩
  · omega
  · refine ⟨g, cap, rfl, hb, (Array.getElem?_eq_some_iff.1 hg).1, ?_, ?_⟩
    · rintro rfl
      obtain ⟨s, hs⟩ := h.blk
      rw [hg] at hs
      simp at hs
    · intro j hj
      rw [h.own.cellAt j (by omega)]
      simp [hj]

/-- Nothing below the heap's end has turned: the file stands. -/
theorem FileAt.below {w' : World} (h : FileAt w B fb v name base size ls) (hb : Below w.heap.size w w') : FileAt w' B fb v name base size ls := by
  have hi := h.hi
  obtain ⟨lo, ⟨s, hs⟩, own⟩ := h
  refine ⟨lo, ⟨s, by rw [hb.block fb hi]; exact hs⟩, own.1, ?_⟩
  rcases own.2 with h0 | ⟨g, cap, cur, hv, hg, hh, r⟩
  · exact .inl h0
  · exact .inr ⟨g, cap, cur, hv, hg, by rw [hb.block g (Array.getElem?_eq_some_iff.1 hh).1]; exact hh, r⟩
end

theorem below_of_drewN (w : World) (n : Nat) : Below w.heap.size w (w.drewN n) := below_drewN (Below.refl _ _) n

set_option maxHeartbeats 400000 in
theorem lineCount_any (fb g n cap : Nat) (w : World) (c4 : w.cell? ⟨fb, 4, none⟩ = some (.slice (some ⟨g, 0, none⟩) n cap)) :
    Calls Edtg.prog 23 #[.pointer (some ⟨fb, 0, none⟩)] w fun e w' => e = .returned (.int .i64 n) ∧ w' = w := by
  go_enter Edtg.func23, Edtg.ntmps23
  go_wp2
  go_ret
  exact ⟨rfl, rfl⟩

set_option maxHeartbeats 400000 in
theorem lineStart_any (fb g n cap : Nat) (base z : Int) (L : Int) (w : World) (h1 : 1 ≤ L) (h2 : L ≤ n) (hn : n ≤ 1048576) (hb1 : 1 ≤ base) (hb2 : base ≤ 536870912) (hz1 : 0 ≤ z) (hz2 : z ≤ 536870912)
    (c2 : w.cell? ⟨fb, 2, none⟩ = some (.int .i64 base)) (c4 : w.cell? ⟨fb, 4, none⟩ = some (.slice (some ⟨g, 0, none⟩) n cap)) (hc : w.cell? ⟨g, L.toNat - 1, none⟩ = some (.int .i64 z)) :
    Calls Edtg.prog 24 #[.pointer (some ⟨fb, 0, none⟩), .int .i64 L] w fun e w' => e = .returned (.int .i64 (base + z)) ∧ ∃ n, w' = w.drewN n := by
  obtain ⟨l, rfl⟩ := Int.eq_ofNat_of_zero_le (show 0 ≤ L by omega)
  rw [Int.toNat_natCast] at hc
  have h1' : 1 ≤ l := by omega
  have h2' : l ≤ n := by omega
  go_enter Edtg.func24, Edtg.ntmps24
  go_wp2
  go_quiet (fail)
  go_wp2
  go_ret
  exact ⟨rfl, _, rfl⟩

theorem ret_three {s : ByteArray} {k : IntKind} {a b c d : Int} (h : a = b) (h' : c = d) : Ending.returned (.tuple #[.string s, .int k a, .int k c]) = .returned (.tuple #[.string s, .int k b, .int k d]) := by rw [h, h']

set_option maxHeartbeats 400000 in
theorem unpack_any {B fb : Nat} {v : Value} {name : ByteArray} {base size : Int} {ls : List Int} (w : World) (x : Int) (hf : FileAt w B fb v name base size ls) (g : Pl.Good size ls) (hs : size ≤ 536870912) (hbig : ls.length ≤ 1048576) (hx1 : -2147483648 ≤ x) (hx2 : x ≤ 2147483648) :
    Calls Edtg.prog 33 #[.pointer (some ⟨fb, 0, none⟩), .int .i64 x] w fun e w' => e = .returned (.tuple #[.string name, .int .i64 (Pl.lineOf ls x), .int .i64 (Pl.colOf ls x)]) ∧ ∃ n, w' = w.drewN n := by
  obtain ⟨gg, cap, rfl, _, _, _, hc⟩ := hf.out g.pos
  have c1 := hf.c1
  have c4 := hf.c4
  have HC : Hid (∀ j, j < ls.length → w.cell? ⟨gg, j, none⟩ = some (.int .i64 (ls.getD j 0))) := hc
  have HR : Hid (∀ i j, i < j → j < ls.length → ls.getD i 0 < ls.getD j 0) := g.rise
  have hle := g.line_le x
  clear hc hf
  by_cases h0 : Pl.lineOf ls x = 0
  · have HF : Hid (Pl.colOf ls x = 0) := Pl.colOf_zero h0
    have H0 : Hid (Pl.lineOf ls x = 0) := h0
    clear h0 g
    go_enter Edtg.func33, Edtg.ntmps33
    go_wp2_with fail
    refine (searchInts_any gg ls.length cap ls x _ rfl hbig HR.out HC.out).mono ?_
    rintro e w' ⟨rfl, rfl⟩
    rw [H0.out]
    go_wp2
    go_ret3
    exact ⟨ret_three (by rw [H0.out]; rfl) HF.out.symm, 0, rfl⟩
  · have HF : Hid (Pl.colOf ls x = x - ls.getD (Pl.lineOf ls x - 1) 0 + 1) := Pl.colOf_pos (by omega)
    have hcell := HC.out (Pl.lineOf ls x - 1) (by omega)
    have hb1 := g.low (Pl.lineOf ls x - 1) (by omega)
    have hb2 := g.high (Pl.lineOf ls x - 1) (by omega)
    obtain ⟨z, hz⟩ : ∃ z, ls.getD (Pl.lineOf ls x - 1) 0 = z := ⟨_, rfl⟩
    rw [hz] at hcell hb1 hb2
    have HZ : Hid (ls.getD (Pl.lineOf ls x - 1) 0 = z) := hz
    obtain ⟨L, hL⟩ : ∃ L, Pl.lineOf ls x = L + 1 := ⟨Pl.lineOf ls x - 1, by omega⟩
    have HL : Hid (Pl.lineOf ls x = L + 1) := hL
    rw [hL] at hcell hle
    rw [Nat.add_sub_cancel] at hcell
    clear hz hL h0 g
    go_enter Edtg.func33, Edtg.ntmps33
    go_wp2_with fail
    refine (searchInts_any gg ls.length cap ls x _ rfl hbig HR.out HC.out).mono ?_
    rintro e w' ⟨rfl, rfl⟩
    rw [HL.out, show (((L + 1 : Nat) : Int) - 1) = (L : Int) from by omega]
    go_wp2
    go_quiet (fail)
    go_wp2
    go_ret3
    exact ⟨ret_three (by rw [HL.out]; omega) (by rw [HF.out, HZ.out]), _, rfl⟩

end Go.Proofs.Yoedtw
