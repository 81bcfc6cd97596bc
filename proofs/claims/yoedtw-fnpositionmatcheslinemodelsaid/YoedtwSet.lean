/-
  A FILE SET IN MEMORY: NewFileSet, AddFile.
-/
import Derived.Test.YoedtwFile
namespace Go.Proofs.Yoedtw
open Go.RowKit

theorem Edtg.info3 : (Edtg.prog.info? 3).map (fun i => (i.zero, i.size, i.bytes)) = some (some (.int .i64 0), 1, 8) := by kernel_rfl
theorem Edtg.info23 : (Edtg.prog.info? 23).map (fun i => (i.zero, i.size, i.bytes)) = some (some (.pointer none), 1, 8) := by kernel_rfl

/-- Block sb (from B on) is a SourceFileSet whose next base is b; its list fv of n files is a row of the call's own. -/
structure SetAt (w : World) (B sb : Nat) (b : Int) (fv : Value) (n : Nat) (xs : List Value) : Prop where
  lo : B ≤ sb
  blk : ∃ l, w.heap[sb]? = some (.cells #[.int .i64 b, fv, l] 51 (0, 0))
  own : w.ownsRow B 23 1 fv n xs

theorem ownsRow_setCell_ne {w : World} {base : Nat} {e : TypeId} {size : Nat} {v : Value} {n : Nat} {xs : List Value} (h : w.ownsRow base e size v n xs) {a : Addr} (ha : v.ownBlock ≠ some a.block) (u : Value) : (w.setCell a u).ownsRow base e size v n xs := by
  obtain ⟨h1, h2⟩ := h
  refine ⟨h1, ?_⟩
  rcases h2 with h2 | ⟨g, cap, cur, rfl, hg, hh, r⟩
  · exact Or.inl h2
  · refine Or.inr ⟨g, cap, cur, rfl, hg, ?_, r⟩
    rw [Below.heap_setCell _ _ _ _ (by intro e; exact ha (by simp [Value.ownBlock, e]))]; exact hh

/-- A row's own block is of its element type: it is no block of another type. -/
theorem ownsRow_ne {w : World} {base : Nat} {e t : TypeId} {size : Nat} {v : Value} {n : Nat} {xs : List Value} {b : Nat} {cs : Array Value} {fr : Nat × Nat} (h : w.ownsRow base e size v n xs) (hb : w.heap[b]? = some (.cells cs t fr)) (hne : e ≠ t) : v.ownBlock ≠ some b := by
  intro e1
  rcases h.2 with ⟨rfl, _⟩ | ⟨g, cap, cur, rfl, hg, hh, r⟩
  · simp [Value.ownBlock] at e1
  · simp [Value.ownBlock] at e1
    subst e1
    rw [hb] at hh
    simp at hh
    exact hne hh.2.1.symm

theorem ownsRow_shape {w : World} {base : Nat} {e : TypeId} {size : Nat} {v : Value} {n : Nat} {xs : List Value} (h : w.ownsRow base e size v n xs) : ∃ ao cap, v = .slice ao n cap := by
  rcases h.2 with ⟨rfl, rfl⟩ | ⟨g, cap, cur, rfl, _⟩
  · exact ⟨_, _, rfl⟩
  · exact ⟨_, _, rfl⟩

set_option maxHeartbeats 400000 in
theorem newFileSet_any (w : World) :
    Calls Edtg.prog 16 #[] w fun e w' => e = .returned (.pointer (some ⟨w.heap.size, 0, none⟩)) ∧ w' = w.alloc (.cells #[.int .i64 1, .slice none 0 0, .pointer none] 51) := by
  go_enter Edtg.func16, Edtg.ntmps16
  go_wp2
  go_ret
  exact ⟨rfl, rfl⟩

/-- The world ahead of the append in AddFile. -/
def addW (w : World) (sb : Nat) (name : ByteArray) (base size : Int) : World :=
  (((w.setCell ⟨sb, 0, none⟩ (.int .i64 (base + (size + 1)))).alloc (.cells #[.int .i64 0] 3)).alloc
    (.cells #[.pointer (some ⟨sb, 0, none⟩), .string name, .int .i64 base, .int .i64 size, .slice (some ⟨w.heap.size, 0, none⟩) 1 1] 42)).alloc (.cells #[.pointer (some ⟨w.heap.size + 1, 0, none⟩)] 23)

theorem addW_size (w : World) (sb : Nat) (name : ByteArray) (base size : Int) : (addW w sb name base size).heap.size = w.heap.size + 3 := by simp [addW]
theorem addW_lt (w : World) (sb : Nat) (name : ByteArray) (base size : Int) (k : Nat) (h : k < w.heap.size) : (addW w sb name base size).heap[k]? = (w.setCell ⟨sb, 0, none⟩ (.int .i64 (base + (size + 1)))).heap[k]? := by
  unfold addW
  rw [Below.heap_alloc _ _ k (by simp; omega), Below.heap_alloc _ _ k (by simp; omega), Below.heap_alloc _ _ k (by simpa using h)]
theorem addW_row (w : World) (sb : Nat) (name : ByteArray) (base size : Int) : (addW w sb name base size).heap[w.heap.size]? = some (.cells #[.int .i64 0] 3 (0, 0)) := by
  unfold addW
  rw [Below.heap_alloc _ _ w.heap.size (by simp; omega), Below.heap_alloc _ _ w.heap.size (by simp)]
  have := heap_alloc_new (w.setCell ⟨sb, 0, none⟩ (.int .i64 (base + (size + 1)))) (.cells #[.int .i64 0] 3)
  simpa using this
theorem addW_file (w : World) (sb : Nat) (name : ByteArray) (base size : Int) : (addW w sb name base size).heap[w.heap.size + 1]? = some (.cells #[.pointer (some ⟨sb, 0, none⟩), .string name, .int .i64 base, .int .i64 size, .slice (some ⟨w.heap.size, 0, none⟩) 1 1] 42 (0, 0)) := by
  unfold addW
  rw [Below.heap_alloc _ _ (w.heap.size + 1) (by simp)]
  have := heap_alloc_new ((w.setCell ⟨sb, 0, none⟩ (.int .i64 (base + (size + 1)))).alloc (.cells #[.int .i64 0] 3)) (.cells #[.pointer (some ⟨sb, 0, none⟩), .string name, .int .i64 base, .int .i64 size, .slice (some ⟨w.heap.size, 0, none⟩) 1 1] 42)
  simpa using this
theorem addW_old (w : World) (sb : Nat) (name : ByteArray) (base size : Int) (k : Nat) (h : k < w.heap.size) (hk : k ≠ sb) : (addW w sb name base size).heap[k]? = w.heap[k]? := by
  rw [addW_lt w sb name base size k h, heap_setCell_other _ _ _ _ hk]
theorem addW_set (w : World) (sb : Nat) (name : ByteArray) (base size b : Int) (fv l : Value) (h : w.heap[sb]? = some (.cells #[.int .i64 b, fv, l] 51 (0, 0))) : (addW w sb name base size).heap[sb]? = some (.cells #[.int .i64 (base + (size + 1)), fv, l] 51 (0, 0)) := by
  have hsb : sb < w.heap.size := (Array.getElem?_eq_some_iff.1 h).1
  rw [addW_lt w sb name base size sb hsb, heap_setCell_same _ _ _ _ _ _ h]
  rfl
theorem addW_below (w : World) (sb B : Nat) (name : ByteArray) (base size : Int) (h : B ≤ sb) (hB : B ≤ w.heap.size) : Below B w (addW w sb name base size) := by
  unfold addW
  exact ((((Below.refl _ _).setCell h _).alloc (by simpa using hB) _).alloc (by simp; omega) _).alloc (by simp; omega) _

/-- What AddFile leaves. -/
structure Added (w w' : World) (B sb fb n : Nat) (fv : Value) (xs : List Value) (name : ByteArray) (base size : Int) : Prop where
  set : ∃ fv', SetAt w' B sb (base + (size + 1)) fv' (n + 1) (xs ++ [.pointer (some ⟨fb, 0, none⟩)])
  file : ∃ v, FileAt w' B fb v name base size [0]
  below : Below B w w'
  old : ∀ k, k < w.heap.size → k ≠ sb → fv.ownBlock ≠ some k → w'.heap[k]? = w.heap[k]?

theorem addFile_close {w w1 : World} {B sb n : Nat} {b : Int} {fv v' : Value} {xs : List Value} {name : ByteArray} {base size : Int} (hS : SetAt w B sb b fv n xs) (hB : B ≤ w.heap.size)
    (own' : w1.ownsRow B 23 1 v' (n + 1) (xs ++ [.pointer (some ⟨w.heap.size + 1, 0, none⟩)])) (hg : (addW w sb name base size).grownBy w1 fv.ownBlock) :
    Added w ((w1.setCell ⟨sb, 1, none⟩ v').setCell ⟨sb, 2, none⟩ (.pointer (some ⟨w.heap.size + 1, 0, none⟩))) B sb (w.heap.size + 1) n fv xs name base size := by
  obtain ⟨lo, ⟨l, hblk⟩, own⟩ := hS
  have hsb : sb < w.heap.size := (Array.getElem?_eq_some_iff.1 hblk).1
  have hne := ownsRow_ne own hblk (by decide)
  have hlt := own.lt
  have hsz := addW_size w sb name base size
  -- the blocks in w1
  have bs : w1.heap[sb]? = some (.cells #[.int .i64 (base + (size + 1)), fv, l] 51 (0, 0)) := by
    rw [hg.block sb (by omega) (fun e => hne e.symm)]; exact addW_set _ _ _ _ _ _ _ _ hblk
  have br : w1.heap[w.heap.size]? = some (.cells #[.int .i64 0] 3 (0, 0)) := by
    rw [hg.block _ (by omega) (fun e => by have := hlt _ e.symm; omega)]; exact addW_row _ _ _ _ _
  have bf : w1.heap[w.heap.size + 1]? = some (.cells #[.pointer (some ⟨sb, 0, none⟩), .string name, .int .i64 base, .int .i64 size, .slice (some ⟨w.heap.size, 0, none⟩) 1 1] 42 (0, 0)) := by
    rw [hg.block _ (by omega) (fun e => by have := hlt _ e.symm; omega)]; exact addW_file _ _ _ _ _
  have hne' := ownsRow_ne own' bs (by decide)
  have oth : ∀ k, k ≠ sb → ((w1.setCell ⟨sb, 1, none⟩ v').setCell ⟨sb, 2, none⟩ (.pointer (some ⟨w.heap.size + 1, 0, none⟩))).heap[k]? = w1.heap[k]? := by
    intro k hk
    rw [heap_setCell_other _ _ _ _ hk, heap_setCell_other _ _ _ _ hk]
  refine ⟨⟨v', lo, ⟨.pointer (some ⟨w.heap.size + 1, 0, none⟩), ?_⟩, ?_⟩, ⟨.slice (some ⟨w.heap.size, 0, none⟩) 1 1, by omega, ⟨.pointer (some ⟨sb, 0, none⟩), ?_⟩, ?_⟩, ?_, ?_⟩
  · have h1 := heap_setCell_same w1 sb 1 _ 51 v' bs
    exact heap_setCell_same _ sb 2 _ 51 _ h1
  · exact ownsRow_setCell_ne (ownsRow_setCell_ne own' hne' _) hne' _
  · rw [oth _ (by omega)]; exact bf
  · refine ⟨rfl, .inr ⟨w.heap.size, 1, #[.int .i64 0], rfl, hB, ?_, Nat.le_refl _, by unfold maxLen; omega, rfl, rfl⟩⟩
    rw [oth _ (by omega)]; exact br
  · exact ((((addW_below w sb B name base size lo hB).grown hg (by omega) (fun k e => (hlt k e).1)).setCell lo _).setCell lo _)
  · intro k hk hk2 hk3
    rw [oth _ hk2, hg.block k (by omega) (fun e => hk3 e.symm), addW_old _ _ _ _ _ _ hk hk2]

set_option maxHeartbeats 400000 in
theorem addFile_any {B sb n : Nat} {b : Int} {fv : Value} {xs : List Value} (w : World) (name : ByteArray) (base size : Int) (hS : SetAt w B sb b fv n xs) (hn : n ≤ 1000) (hB : B ≤ w.heap.size)
    (h1 : 1 ≤ b) (h2 : b ≤ 1073741832) (h3 : 0 ≤ size) (h4 : size ≤ 536870912) (h5 : b ≤ base) (h6 : base ≤ 1073741832) :
    Calls Edtg.prog 17 #[.pointer (some ⟨sb, 0, none⟩), .string name, .int .i64 base, .int .i64 size] w fun e w' => e = .returned (.pointer (some ⟨w.heap.size + 1, 0, none⟩)) ∧ Added w w' B sb (w.heap.size + 1) n fv xs name base size := by
  obtain ⟨i0, hi, hz0, hz1, hz2⟩ := info_parts Edtg.info23
  have HS : Hid (SetAt w B sb b fv n xs) := hS
  obtain ⟨lo, ⟨l, hblk⟩, own⟩ := hS
  have hsb : sb < w.heap.size := (Array.getElem?_eq_some_iff.1 hblk).1
  have hne := ownsRow_ne own hblk (by decide)
  obtain ⟨ao, cap, rfl⟩ := ownsRow_shape own
  have k0 : w.cell? ⟨sb, 0, none⟩ = some (.int .i64 b) := by rw [cell_of_row w sb 0 _ 51 _ hblk]; rfl
  have k1 : w.cell? ⟨sb, 1, none⟩ = some (.slice ao n cap) := by rw [cell_of_row w sb 1 _ 51 _ hblk]; rfl
  have k2 : w.cell? ⟨sb, 2, none⟩ = some l := by rw [cell_of_row w sb 2 _ 51 _ hblk]; rfl
  have f0 : w.frozen? ⟨sb, 0, none⟩ = false := frozen_of_row w sb 0 _ 51 hblk
  have f1 : w.frozen? ⟨sb, 1, none⟩ = false := frozen_of_row w sb 1 _ 51 hblk
  have f2 : w.frozen? ⟨sb, 2, none⟩ = false := frozen_of_row w sb 2 _ 51 hblk
  have HB : Hid (w.heap[sb]? = some (.cells #[.int .i64 b, .slice ao n cap, l] 51 (0, 0))) := hblk
  have HN : Hid ((Value.slice ao n cap).ownBlock ≠ some sb) := hne
  have own1 := ownsRow_setCell_ne own (a := ⟨sb, 0, none⟩) hne (.int .i64 (base + (size + 1)))
  clear hblk hne own
  go_enter Edtg.func17, Edtg.ntmps17
  go_wp2_with (at_builtin; refine wpList_append_own _ rfl (.tmp 49) (.tmp 51) 49 rfl B 23 i0 (.pointer none) 1 8 Edtg.underlying49 hi hz0 hz1 hz2 rfl (by decide) _ _ _ rfl (((own1.alloc _).alloc _).alloc _) ⟨w.heap.size + 1 + 1, 0, none⟩ 1 1 [.pointer (some ⟨w.heap.size + 1, 0, none⟩)] rfl rfl ?c1 ?c2 ?c3 ?c4 ?c5 ?_)
  case c1 => intro j u hj; match j, hj with | 0, hj => simp at hj; subst hj; simp [Addr.add, World.cell?_alloc_at]
  case c2 => intro u hu; simp at hu; subst hu; rfl
  case c3 => unfold maxLen; omega
  case c4 => omega
  case c5 => simp; omega
  intro v' w1 own' hg _
  have own'' : w1.ownsRow B 23 1 v' (n + 1) (xs ++ [.pointer (some ⟨w.heap.size + 1, 0, none⟩)]) := own'
  have hg' : (addW w sb name base size).grownBy w1 (Value.slice ao n cap).ownBlock := hg
  have bs : w1.heap[sb]? = some (.cells #[.int .i64 (base + (size + 1)), .slice ao n cap, l] 51 (0, 0)) := by
    rw [hg'.block sb (by have := addW_size w sb name base size; omega) (fun e => HN.out e.symm)]; exact addW_set _ _ _ _ _ _ _ _ HB.out
  have j1 : w1.cell? ⟨sb, 1, none⟩ = some (.slice ao n cap) := by rw [cell_of_row w1 sb 1 _ 51 _ bs]; rfl
  have j2 : w1.cell? ⟨sb, 2, none⟩ = some l := by rw [cell_of_row w1 sb 2 _ 51 _ bs]; rfl
  have e1 : w1.frozen? ⟨sb, 1, none⟩ = false := frozen_of_row w1 sb 1 _ 51 bs
  have e2 : w1.frozen? ⟨sb, 2, none⟩ = false := frozen_of_row w1 sb 2 _ 51 bs
  have HF := addFile_close HS.out hB own'' hg'
  obtain ⟨ao', cap', rfl⟩ := ownsRow_shape own''
  clear own' hg hg' own'' bs own1 k0 k1 k2 f0 f1 f2
  go_wp2
  go_ret
  exact ⟨rfl, HF⟩

-- A negative base: the set's own next base.
set_option maxHeartbeats 400000 in
theorem addFile_next {B sb n : Nat} {b : Int} {fv : Value} {xs : List Value} (w : World) (name : ByteArray) (size : Int) (hS : SetAt w B sb b fv n xs) (hn : n ≤ 1000) (hB : B ≤ w.heap.size)
    (h1 : 1 ≤ b) (h2 : b ≤ 1073741832) (h3 : 0 ≤ size) (h4 : size ≤ 536870912) :
    Calls Edtg.prog 17 #[.pointer (some ⟨sb, 0, none⟩), .string name, .int .i64 (-1), .int .i64 size] w fun e w' => e = .returned (.pointer (some ⟨w.heap.size + 1, 0, none⟩)) ∧ Added w w' B sb (w.heap.size + 1) n fv xs name b size := by
  obtain ⟨i0, hi, hz0, hz1, hz2⟩ := info_parts Edtg.info23
  have HS : Hid (SetAt w B sb b fv n xs) := hS
  obtain ⟨lo, ⟨l, hblk⟩, own⟩ := hS
  have hsb : sb < w.heap.size := (Array.getElem?_eq_some_iff.1 hblk).1
  have hne := ownsRow_ne own hblk (by decide)
  obtain ⟨ao, cap, rfl⟩ := ownsRow_shape own
  have k0 : w.cell? ⟨sb, 0, none⟩ = some (.int .i64 b) := by rw [cell_of_row w sb 0 _ 51 _ hblk]; rfl
  have k1 : w.cell? ⟨sb, 1, none⟩ = some (.slice ao n cap) := by rw [cell_of_row w sb 1 _ 51 _ hblk]; rfl
  have k2 : w.cell? ⟨sb, 2, none⟩ = some l := by rw [cell_of_row w sb 2 _ 51 _ hblk]; rfl
  have f0 : w.frozen? ⟨sb, 0, none⟩ = false := frozen_of_row w sb 0 _ 51 hblk
  have f1 : w.frozen? ⟨sb, 1, none⟩ = false := frozen_of_row w sb 1 _ 51 hblk
  have f2 : w.frozen? ⟨sb, 2, none⟩ = false := frozen_of_row w sb 2 _ 51 hblk
  have HB : Hid (w.heap[sb]? = some (.cells #[.int .i64 b, .slice ao n cap, l] 51 (0, 0))) := hblk
  have HN : Hid ((Value.slice ao n cap).ownBlock ≠ some sb) := hne
  have own1 := ownsRow_setCell_ne own (a := ⟨sb, 0, none⟩) hne (.int .i64 (b + (size + 1)))
  clear hblk hne own
  go_enter Edtg.func17, Edtg.ntmps17
  go_wp2_with (at_builtin; refine wpList_append_own _ rfl (.tmp 49) (.tmp 51) 49 rfl B 23 i0 (.pointer none) 1 8 Edtg.underlying49 hi hz0 hz1 hz2 rfl (by decide) _ _ _ rfl (((own1.alloc _).alloc _).alloc _) ⟨w.heap.size + 1 + 1, 0, none⟩ 1 1 [.pointer (some ⟨w.heap.size + 1, 0, none⟩)] rfl rfl ?c1 ?c2 ?c3 ?c4 ?c5 ?_)
  case c1 => intro j u hj; match j, hj with | 0, hj => simp at hj; subst hj; simp [Addr.add, World.cell?_alloc_at]
  case c2 => intro u hu; simp at hu; subst hu; rfl
  case c3 => unfold maxLen; omega
  case c4 => omega
  case c5 => simp; omega
  intro v' w1 own' hg _
  have own'' : w1.ownsRow B 23 1 v' (n + 1) (xs ++ [.pointer (some ⟨w.heap.size + 1, 0, none⟩)]) := own'
  have hg' : (addW w sb name b size).grownBy w1 (Value.slice ao n cap).ownBlock := hg
  have bs : w1.heap[sb]? = some (.cells #[.int .i64 (b + (size + 1)), .slice ao n cap, l] 51 (0, 0)) := by
    rw [hg'.block sb (by have := addW_size w sb name b size; omega) (fun e => HN.out e.symm)]; exact addW_set _ _ _ _ _ _ _ _ HB.out
  have j1 : w1.cell? ⟨sb, 1, none⟩ = some (.slice ao n cap) := by rw [cell_of_row w1 sb 1 _ 51 _ bs]; rfl
  have j2 : w1.cell? ⟨sb, 2, none⟩ = some l := by rw [cell_of_row w1 sb 2 _ 51 _ bs]; rfl
  have e1 : w1.frozen? ⟨sb, 1, none⟩ = false := frozen_of_row w1 sb 1 _ 51 bs
  have e2 : w1.frozen? ⟨sb, 2, none⟩ = false := frozen_of_row w1 sb 2 _ 51 bs
  have HF := addFile_close HS.out hB own'' hg'
  obtain ⟨ao', cap', rfl⟩ := ownsRow_shape own''
  clear own' hg hg' own'' bs own1 k0 k1 k2 f0 f1 f2
  go_wp2
  go_ret
  exact ⟨rfl, HF⟩

end Go.Proofs.Yoedtw
