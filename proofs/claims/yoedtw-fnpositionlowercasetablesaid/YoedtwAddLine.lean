/-
  AddLine: the table grows by one start, or stays.
-/
import Derived.Test.YoedtwSet
namespace Go.Proofs.Yoedtw
open Go.RowKit

theorem addLine_close {w w1 : World} {B fb : Nat} {v v' : Value} {name : ByteArray} {base size x : Int} {ls : List Int} (hf : FileAt w B fb v name base size ls) (hB : B ≤ w.heap.size)
    (own' : w1.ownsRow B 3 1 v' (ls.length + 1) (ls.map (Value.int .i64) ++ [.int .i64 x])) (hg : (w.alloc (.cells #[.int .i64 x] 3)).grownBy w1 v.ownBlock) :
    FileAt (w1.setCell ⟨fb, 4, none⟩ v') B fb v' name base size (ls ++ [x]) ∧ Below B w (w1.setCell ⟨fb, 4, none⟩ v') := by
  have hi := hf.hi
  obtain ⟨lo, ⟨s, hs⟩, own⟩ := hf
  have hne := ownsRow_ne own hs (by decide)
  have hlt := own.lt
  have bs : w1.heap[fb]? = some (.cells #[s, .string name, .int .i64 base, .int .i64 size, v] 42 (0, 0)) := by
    rw [hg.block fb (by simp; omega) (fun e => hne e.symm), heap_alloc_old w _ hi]; exact hs
  have hne' := ownsRow_ne own' bs (by decide)
  refine ⟨⟨lo, ⟨s, heap_setCell_same w1 fb 4 _ 42 v' bs⟩, ?_⟩, ?_⟩
  · have := ownsRow_setCell_ne own' (a := ⟨fb, 4, none⟩) hne' v'
    simpa using this
  · exact (((Below.refl _ _).alloc hB _).grown hg (by simp; omega) (fun k e => (hlt k e).1)).setCell lo _

set_option maxHeartbeats 800000 in
theorem addLine_yes {B fb : Nat} {v : Value} {name : ByteArray} {base size : Int} {ls : List Int} (w : World) (x : Int) (hf : FileAt w B fb v name base size ls) (hp : 0 < ls.length) (hbig : ls.length ≤ 1048576) (hB : B ≤ w.heap.size)
    (h1 : ls.getD (ls.length - 1) 0 < x) (h2 : x < size) :
    Calls Edtg.prog 31 #[.pointer (some ⟨fb, 0, none⟩), .int .i64 x] w fun e w' => e = .returned (.tuple #[]) ∧ (∃ v', FileAt w' B fb v' name base size (ls ++ [x])) ∧ Below B w w' := by
  obtain ⟨i0, hi, hz0, hz1, hz2⟩ := info_parts Edtg.info3
  have HF : Hid (FileAt w B fb v name base size ls) := hf
  obtain ⟨g, cap, rfl, _, hgs, hgne, hc⟩ := hf.out hp
  have hcell := hc (ls.length - 1) (by omega)
  obtain ⟨z, hz⟩ : ∃ z, ls.getD (ls.length - 1) 0 = z := ⟨_, rfl⟩
  rw [hz] at hcell h1
  have c3 := hf.c3
  have c4 := hf.c4
  have f4 := hf.f4
  have hfb := hf.hi
  have own := hf.own
  obtain ⟨L, hL⟩ : ∃ L, ls.length = L := ⟨_, rfl⟩
  have HL : Hid (ls.length = L) := hL
  obtain ⟨xs, hxs⟩ : ∃ xs, ls.map (Value.int .i64) = xs := ⟨_, rfl⟩
  have HX : Hid (ls.map (Value.int .i64) = xs) := hxs
  rw [hL] at hcell c4 hp hbig
  rw [hL, hxs] at own
  rw [hL] at HF
  have hd0 : ((L : Int) == 0) = false := by simp; omega
  have hd1 : decide (z < x) = true := decide_eq_true h1
  clear hf hc hz hL hxs
  go_enter Edtg.func31, Edtg.ntmps31
  go_wp2_with (at_builtin; refine wpList_append_own _ rfl (.tmp 36) (.tmp 38) 33 rfl B 3 i0 (.int .i64 0) 1 8 Edtg.underlying33 hi hz0 hz1 hz2 rfl (by decide) _ _ _ rfl (own.alloc _) ⟨w.heap.size, 0, none⟩ 1 1 [.int .i64 x] rfl rfl ?c1 ?c2 ?c3 ?c4 ?c5 ?_)
  case c1 => intro j u hj; match j, hj with | 0, hj => simp at hj; subst hj; simp [Addr.add, World.cell?_alloc_at]
  case c2 => intro u hu; simp at hu; subst hu; rfl
  case c3 => unfold maxLen; omega
  case c4 => omega
  case c5 => simp; omega
  intro v' w1 own' hg _
  have R := addLine_close (x := x) (v' := v') HF.out hB (by rw [HL.out, HX.out]; exact own') hg
  have bs : ∃ s, w1.heap[fb]? = some (.cells #[s, .string name, .int .i64 base, .int .i64 size, .slice (some ⟨g, 0, none⟩) L cap] 42 (0, 0)) := by
    obtain ⟨s, hs⟩ := HF.out.blk
    refine ⟨s, ?_⟩
    rw [hg.block fb (by simp; omega) (by simpa [Value.ownBlock] using fun e : fb = g => hgne e.symm), heap_alloc_old w _ hfb]
    exact hs
  obtain ⟨s, bs⟩ := bs
  have j4 : w1.cell? ⟨fb, 4, none⟩ = some (.slice (some ⟨g, 0, none⟩) L cap) := by rw [cell_of_row w1 fb 4 _ 42 _ bs]; rfl
  have e4 : w1.frozen? ⟨fb, 4, none⟩ = false := frozen_of_row w1 fb 4 _ 42 bs
  obtain ⟨ao', cap', rfl⟩ := ownsRow_shape own'
  clear own' hg bs c3 c4 f4 hcell own
  go_wp2
  go_end0
  exact ⟨rfl, ⟨_, R.1⟩, R.2⟩

set_option maxHeartbeats 800000 in
theorem addLine_no {B fb : Nat} {v : Value} {name : ByteArray} {base size : Int} {ls : List Int} (w : World) (x : Int) (hf : FileAt w B fb v name base size ls) (hp : 0 < ls.length) (hbig : ls.length ≤ 1048576)
    (h1 : x ≤ ls.getD (ls.length - 1) 0 ∨ size ≤ x) :
    Calls Edtg.prog 31 #[.pointer (some ⟨fb, 0, none⟩), .int .i64 x] w fun e w' => e = .returned (.tuple #[]) ∧ w' = w := by
  obtain ⟨g, cap, rfl, _, hgs, hgne, hc⟩ := hf.out hp
  have hcell := hc (ls.length - 1) (by omega)
  obtain ⟨z, hz⟩ : ∃ z, ls.getD (ls.length - 1) 0 = z := ⟨_, rfl⟩
  rw [hz] at hcell h1
  have c3 := hf.c3
  have c4 := hf.c4
  obtain ⟨L, hL⟩ : ∃ L, ls.length = L := ⟨_, rfl⟩
  rw [hL] at hcell c4 hp hbig
  have hd0 : ((L : Int) == 0) = false := by simp; omega
  clear hf hc hz hL
  by_cases t : z < x
  · have hd1 : decide (z < x) = true := decide_eq_true t
    have hs : size ≤ x := by omega
    go_enter Edtg.func31, Edtg.ntmps31
    go_wp2
    go_end0
    exact ⟨rfl, rfl⟩
  · have hd1 : decide (z < x) = false := decide_eq_false t
    go_enter Edtg.func31, Edtg.ntmps31
    go_wp2
    go_end0
    exact ⟨rfl, rfl⟩

theorem addLine_any {B fb : Nat} {v : Value} {name : ByteArray} {base size : Int} {ls : List Int} (w : World) (x : Int) (hf : FileAt w B fb v name base size ls) (hp : 0 < ls.length) (hbig : ls.length ≤ 1048576) (hB : B ≤ w.heap.size) :
    Calls Edtg.prog 31 #[.pointer (some ⟨fb, 0, none⟩), .int .i64 x] w fun e w' => e = .returned (.tuple #[]) ∧ (∃ v', FileAt w' B fb v' name base size (Pl.addLn size ls x)) ∧ Below B w w' := by
  by_cases t : ls.getD (ls.length - 1) 0 < x ∧ x < size
  · have e : Pl.addLn size ls x = ls ++ [x] := by unfold Pl.addLn; rw [if_pos t]
    rw [e]
    exact addLine_yes w x hf hp hbig hB t.1 t.2
  · have e : Pl.addLn size ls x = ls := by unfold Pl.addLn; rw [if_neg t]
    rw [e]
    refine (addLine_no w x hf hp hbig (by omega)).mono ?_
    rintro e w' ⟨rfl, rfl⟩
    exact ⟨rfl, ⟨_, hf⟩, Below.refl _ _⟩

end Go.Proofs.Yoedtw
