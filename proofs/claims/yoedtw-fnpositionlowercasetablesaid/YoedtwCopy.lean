/-
  zzCopyInts_b50: a fresh copy.
-/
import Derived.Test.YoedtwBuild
import Derived.Deep.OwnRows
namespace Go.Proofs.Yoedtw
open Go.RowKit

theorem below_ex {w w' : World} (h : ∃ n, w' = w.drewN n) : Below w.heap.size w w' := by
  obtain ⟨n, rfl⟩ := h; exact below_of_drewN w n

/-- Block G is a row of n cells of the call's own; its first k cells hold zs's first k numbers; nothing old has turned. -/
structure CopyTo (w wr : World) (G n : Nat) (zs : List Int) (k : Nat) : Prop where
  there : ∀ j, j < n → ∃ u, wr.cell? ⟨G, j, none⟩ = some u
  soft : ∀ j, wr.frozen? ⟨G, j, none⟩ = false
  done : ∀ j, j < k → wr.cell? ⟨G, j, none⟩ = some (.int .i64 (zs.getD j 0))
  below : Below w.heap.size w wr
  lo : w.heap.size ≤ G

theorem copyTo_start (w : World) (n : Nat) (zs : List Int) : CopyTo w (w.alloc (.cells (madeCells #[Value.int .i64 0] n) 3)) w.heap.size n zs 0 where
  there := by intro j hj; rw [World.cell?_alloc_at _ _ _ _ rfl]; exact ⟨_, Array.getElem?_eq_getElem (by rw [size_madeCells]; exact hj)⟩
  soft := by intro j; exact World.frozen?_alloc_at _ _ _ _ rfl
  done := fun j hj => absurd hj (by omega)
  below := (Below.refl _ _).alloc (Nat.le_refl _) _
  lo := Nat.le_refl _

theorem CopyTo.step {w wr : World} {G n k : Nat} {zs : List Int} (h : CopyTo w wr G n zs k) (hk : k < n) {z : Int} (hz : zs.getD k 0 = z) : CopyTo w (wr.setCell ⟨G, k, none⟩ (.int .i64 z)) G n zs (k + 1) where
  there := by
    intro j hj
    obtain ⟨u, hu⟩ := h.there j hj
    by_cases e : j = k
    · subst e; exact ⟨_, World.cell?_setCell_same _ _ _ hu⟩
    · exact ⟨u, by rw [World.cell?_setCell_other _ _ _ _ (fun h => e (by injection h with _ h2; exact h2.symm))]; exact hu⟩
  soft := by intro j; rw [World.frozen?_setCell]; exact h.soft j
  done := by
    intro j hj
    by_cases e : j = k
    · subst e; obtain ⟨u, hu⟩ := h.there j hk; rw [hz]; exact World.cell?_setCell_same _ _ _ hu
    · rw [World.cell?_setCell_other _ _ _ _ (fun h => e (by injection h with _ h2; exact h2.symm))]; exact h.done j (by omega)
  below := h.below.setCell h.lo _
  lo := h.lo

theorem CopyTo.row {w wr : World} {G n : Nat} {zs : List Int} (h : CopyTo w wr G n zs n) (hn : zs.length = n) : RowIn wr wr.heap.size (some ⟨G, 0, none⟩) zs := by
  intro k hk
  have := h.done k (by omega)
  exact ⟨G, 0, rfl, World.block_lt_of_cell? _ _ this, by simpa using this⟩

set_option maxHeartbeats 800000 in
theorem copy_any (a : Option Addr) (cap n : Nat) (zs : List Int) (w : World) (hn : zs.length = n) (hbig : n ≤ 1048575) (hrow : RowIn w w.heap.size a zs) :
    Calls Edtg.prog 19 #[.slice a n cap] w fun e w' =>
      ∃ a' cap', e = .returned (.slice a' n cap') ∧ RowIn w' w'.heap.size a' zs ∧ Below w.heap.size w w' := by
  have heq : ∀ w : World, (binOp .eql 33 (.slice a n cap) (.slice none 0 0)).run Edtg.prog w = .ok (.bool a.isNone) w := fun w => Lib.run_eql_slice_nil w _ _ a n cap 0 0 Edtg.underlying33
  have HR : Hid (RowIn w w.heap.size a zs) := hrow
  have HN : Hid (zs.length = n) := hn
  clear hrow hn
  cases a with
  | none =>
    have hn0 : n = 0 := by
      by_cases e : n = 0
      · exact e
      · obtain ⟨b, off, h, _⟩ := HR.out 0 (by rw [HN.out]; omega)
        cases h
    subst hn0
    go_enter Edtg.func19, Edtg.ntmps19
    go_wp2
    go_ret
    exact ⟨_, _, rfl, HR.out, Below.refl _ _⟩
  | some x =>
    have hmk := fun w => run_make_row' (P := Edtg.prog) 33 3 (.int .i64 0) 8 Edtg.underlying33 Edtg.info3 rfl .i64 .i64 n (by omega) (by omega) w
    have C0 := copyTo_start w n zs
    go_enter Edtg.func19, Edtg.ntmps19
    go_wp2
    go_loopw [4] (fun i wr => ∃ k : Nat, k ≤ n ∧ i = .int .i64 k ∧ CopyTo w wr w.heap.size n zs k) (fun i _ => n - (intOf i).toNat)
    case atStart => exact ⟨0, Nat.zero_le _, rfl, C0⟩
    case round =>
      clear C0 hmk heq
      obtain ⟨k, hk, rfl, C⟩ := hrel
      by_cases hlt : k < n
      · obtain ⟨b, off, hx, hb, hc⟩ := HR.out k (by rw [HN.out]; exact hlt)
        cases hx
        have hc' := (C.below.cell (p := ⟨b, off + k, none⟩) hb).trans hc
        obtain ⟨z, hz⟩ : ∃ z, zs.getD k 0 = z := ⟨_, rfl⟩
        rw [hz] at hc'
        have C1 := C.step hlt hz
        obtain ⟨u, hu⟩ := C.there k hlt
        have hs := C.soft k
        clear hz hc C
        go_wp2
        go_roundw
        case rel => exact ⟨k + 1, by omega, by go_num, C1⟩
        case measure => simp [intOf]; omega
      · have hk' : k = n := by omega
        subst hk'
        go_wp2
        go_ret
        exact ⟨_, _, rfl, C.row HN.out, C.below⟩

end Go.Proofs.Yoedtw
