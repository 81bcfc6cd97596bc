/-
  FnOffsetFreshSetClosedForm walked.
-/
import Derived.Test.YoedtwSet
import Derived.Test.YoedtwWalk4Bad
namespace Go.Proofs.Yoedtw
open Go.RowKit

theorem setAt_new (w : World) : SetAt (w.alloc (.cells #[.int .i64 1, .slice none 0 0, .pointer none] 51)) w.heap.size w.heap.size 1 (.slice none 0 0) 0 [] :=
  ⟨Nat.le_refl _, ⟨_, heap_alloc_new w _⟩, World.ownsRow_nil _ _ _ _⟩

theorem FileAt.old {w w' : World} {B fb : Nat} {v : Value} {name : ByteArray} {base size : Int} {ls : List Int} (h : FileAt w B fb v name base size ls)
    (hk : ∀ (k : Nat) (cs : Array Value) (t : TypeId) (fr : Nat × Nat), w.heap[k]? = some (Obj.cells cs t fr) → t = 42 ∨ t = 3 → w'.heap[k]? = w.heap[k]?) : FileAt w' B fb v name base size ls := by
  obtain ⟨lo, ⟨s, hs⟩, own⟩ := h
  refine ⟨lo, ⟨s, by rw [hk _ _ _ _ hs (.inl rfl)]; exact hs⟩, own.1, ?_⟩
  rcases own.2 with h0 | ⟨g, cap, cur, hv, hg, hh, r⟩
  · exact .inl h0
  · exact .inr ⟨g, cap, cur, hv, hg, by rw [hk _ _ _ _ hh (.inr rfl)]; exact hh, r⟩

/-- A second file is added: the first stands. -/
theorem FileAt.added {w w' : World} {B fb sb n fb' : Nat} {b : Int} {v fv : Value} {xs : List Value} {name name' : ByteArray} {base size base' size' : Int} {ls : List Int} (h : FileAt w B fb v name base size ls)
    (hS : SetAt w B sb b fv n xs) (hA : Added w w' B sb fb' n fv xs name' base' size') : FileAt w' B fb v name base size ls := by
  refine h.old fun k cs t fr hk ht => hA.old k (Array.getElem?_eq_some_iff.1 hk).1 ?_ ?_
  · rintro rfl
    obtain ⟨l, hl⟩ := hS.blk
    rw [hk] at hl
    rcases ht with rfl | rfl <;> simp at hl
  · exact ownsRow_ne hS.own hk (by rcases ht with rfl | rfl <;> decide)

theorem below_of_ex {w w' : World} (h : ∃ n, w' = w.drewN n) : Below w.heap.size w w' := by
  obtain ⟨n, rfl⟩ := h; exact below_of_drewN w n

set_option maxHeartbeats 800000 in
theorem walk4_good (a b k1 k2 : Int) (w : World) (h1 : 0 ≤ a) (h2 : a ≤ 536870912) (h3 : 0 ≤ b) (h4 : b ≤ 536870912) (h5 : 0 ≤ k1) (h6 : k1 ≤ a) (h7 : 0 ≤ k2) (h8 : k2 ≤ b) :
    Calls Edtg.prog 4 #[.int .i64 a, .int .i64 b, .int .i64 k1, .int .i64 k2] w fun e w' => e = .returned (.bool true) ∧ Below w.heap.size w w' := by
  go_enter Edtg.func4, Edtg.ntmps4
  go_wp2_with fail
  refine (newFileSet_any _).mono ?_
  rintro e w1 ⟨rfl, hw1⟩
  have S1 := setAt_new w
  rw [← hw1] at S1
  have b1 : Below w.heap.size w w1 := by rw [hw1]; exact (Below.refl _ _).alloc (Nat.le_refl _) _
  clear hw1
  go_wp2_with fail
  refine (addFile_next _ _ a S1 (by omega) b1.size (by omega) (by omega) h1 h2).mono ?_
  rintro e w2 ⟨rfl, A2⟩
  obtain ⟨fv2, S2⟩ := A2.set
  obtain ⟨v2, F2⟩ := A2.file
  have b2 := b1.trans A2.below
  obtain ⟨fa, hfa⟩ : ∃ fa, w1.heap.size + 1 = fa := ⟨_, rfl⟩
  rw [hfa] at F2 S2 ⊢
  clear hfa A2 S1 b1
  go_wp2_with fail
  refine (addFile_next _ _ b S2 (by omega) b2.size (by omega) (by omega) h3 h4).mono ?_
  rintro e w3 ⟨rfl, A3⟩
  have F3 := F2.added S2 A3
  obtain ⟨v3, G3⟩ := A3.file
  have b3 := b2.trans A3.below
  obtain ⟨fb, hfb⟩ : ∃ fb, w2.heap.size + 1 = fb := ⟨_, rfl⟩
  rw [hfb] at G3 ⊢
  clear hfb A3 S2 F2 b2
  go_wp2_with fail
  refine (offset_any fa 1 a _ _ (by omega) (by omega) h1 h2 (by omega) (by omega) F3.c2 F3.c3).mono ?_
  rintro e w4 ⟨rfl, hw⟩
  have bb := below_of_ex hw
  have F4 := F3.below bb
  have G4 := G3.below bb
  have b4 := b3.trans (bb.mono b3.size)
  clear F3 G3 b3 bb hw
  rw [show (1 + k1 - 1 : Int) = k1 from by omega]
  go_wp2_with fail
  refine (offset_any fb (1 + (a + 1)) b _ _ (by omega) (by omega) h3 h4 (by omega) (by omega) G4.c2 G4.c3).mono ?_
  rintro e w5 ⟨rfl, hw⟩
  have bb := below_of_ex hw
  have F5 := F4.below bb
  have G5 := G4.below bb
  have b5 := b4.trans (bb.mono b4.size)
  clear F4 G4 b4 bb hw
  rw [show (a + 2 + k2 - (1 + (a + 1)) : Int) = k2 from by omega]
  by_cases t1 : k1 < a
  · go_wp2_with fail
    refine (offset_any fa 1 a _ _ (by omega) (by omega) h1 h2 (by omega) (by omega) F5.c2 F5.c3).mono ?_
    rintro e w6 ⟨rfl, hw⟩
    have bb := below_of_ex hw
    have G6 := G5.below bb
    have b6 := b5.trans (bb.mono b5.size)
    clear F5 G5 b5 bb hw
    rw [show (2 + k1 - 1 : Int) = k1 + 1 from by omega]
    by_cases t2 : k2 < b
    · go_wp2_with fail
      refine (offset_any fb (1 + (a + 1)) b _ _ (by omega) (by omega) h3 h4 (by omega) (by omega) G6.c2 G6.c3).mono ?_
      rintro e w7 ⟨rfl, hw⟩
      have bb := below_of_ex hw
      have b7 := b6.trans (bb.mono b6.size)
      clear G6 b6 bb hw
      rw [show (a + 3 + k2 - (1 + (a + 1)) : Int) = k2 + 1 from by omega]
      go_wp2_with fail
      go_ret
      exact ⟨rfl, b7⟩
    · go_wp2_with fail
      go_ret
      exact ⟨rfl, b6⟩
  · by_cases t2 : k2 < b
    · go_wp2_with fail
      refine (offset_any fb (1 + (a + 1)) b _ _ (by omega) (by omega) h3 h4 (by omega) (by omega) G5.c2 G5.c3).mono ?_
      rintro e w7 ⟨rfl, hw⟩
      have bb := below_of_ex hw
      have b7 := b5.trans (bb.mono b5.size)
      clear F5 G5 b5 bb hw
      rw [show (a + 3 + k2 - (1 + (a + 1)) : Int) = k2 + 1 from by omega]
      go_wp2_with fail
      go_ret
      exact ⟨rfl, b7⟩
    · go_wp2_with fail
      go_ret
      exact ⟨rfl, b5⟩

theorem walk4 (a b k1 k2 : Int) (w : World) :
    Calls Edtg.prog 4 #[.int .i64 a, .int .i64 b, .int .i64 k1, .int .i64 k2] w fun e w' => e = .returned (.bool true) ∧ Below w.heap.size w w' := by
  by_cases h : 0 ≤ a ∧ a ≤ 536870912 ∧ 0 ≤ b ∧ b ≤ 536870912 ∧ 0 ≤ k1 ∧ k1 ≤ a ∧ 0 ≤ k2 ∧ k2 ≤ b
  · obtain ⟨h1, h2, h3, h4, h5, h6, h7, h8⟩ := h
    exact walk4_good a b k1 k2 w h1 h2 h3 h4 h5 h6 h7 h8
  · exact walk4_bad a b k1 k2 w (by omega)

end Go.Proofs.Yoedtw
