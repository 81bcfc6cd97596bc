/-
  zzBuild_b50: a fresh set, a file, the proposed starts added one by one. zzCopyInts_b50: a fresh copy.
-/
import Derived.Test.YoedtwAddLine
namespace Go.Proofs.Yoedtw
open Go.RowKit

theorem setAt_fresh (w : World) : SetAt (w.alloc (.cells #[.int .i64 1, .slice none 0 0, .pointer none] 51)) w.heap.size w.heap.size 1 (.slice none 0 0) 0 [] :=
  ⟨Nat.le_refl _, ⟨_, heap_alloc_new w _⟩, World.ownsRow_nil _ _ _ _⟩

/-- The numbers zs lie where a slice at 'a' reads them, in blocks below B. -/
def RowIn (w : World) (B : Nat) (a : Option Addr) (zs : List Int) : Prop :=
  ∀ k, k < zs.length → ∃ b off, a = some ⟨b, off, none⟩ ∧ b < B ∧ w.cell? ⟨b, off + k, none⟩ = some (.int .i64 (zs.getD k 0))

theorem built_take (size : Int) (zs : List Int) (k : Nat) (h : k < zs.length) : Pl.built size (zs.take (k + 1)) = Pl.addLn size (Pl.built size (zs.take k)) (zs.getD k 0) := by
  rw [List.take_succ_eq_append_getElem h, Pl.built_snoc]
  simp [h]

set_option maxHeartbeats 800000 in
theorem build_any (name : ByteArray) (base size : Int) (a : Option Addr) (cap n : Nat) (zs : List Int) (w : World) (hn : zs.length = n) (hbig : n ≤ 1048575) (hrow : RowIn w w.heap.size a zs)
    (h1 : 1 ≤ base) (h2 : base ≤ 536870912) (h3 : 0 ≤ size) (h4 : size ≤ 536870912) :
    Calls Edtg.prog 12 #[.string name, .int .i64 base, .int .i64 size, .slice a n cap] w fun e w' =>
      ∃ fb v, e = .returned (.pointer (some ⟨fb, 0, none⟩)) ∧ FileAt w' w.heap.size fb v name base size (Pl.built size zs) ∧ Below w.heap.size w w' := by
  have HR : Hid (RowIn w w.heap.size a zs) := hrow
  have HN : Hid (zs.length = n) := hn
  clear hrow hn
  go_enter Edtg.func12, Edtg.ntmps12
  go_wp2_with fail
  refine (newFileSet_any _).mono ?_
  rintro e w1 ⟨rfl, hw1⟩
  have S1 := setAt_fresh w
  rw [← hw1] at S1
  have b1 : Below w.heap.size w w1 := by rw [hw1]; exact (Below.refl _ _).alloc (Nat.le_refl _) _
  clear hw1
  go_wp2_with fail
  refine (addFile_any _ name base size S1 (by omega) b1.size (by omega) (by omega) h3 h4 h1 (by omega)).mono ?_
  rintro e w2 ⟨rfl, A2⟩
  obtain ⟨v2, F2⟩ := A2.file
  have b2 := b1.trans A2.below
  obtain ⟨fb, hfb⟩ : ∃ fb, w1.heap.size + 1 = fb := ⟨_, rfl⟩
  rw [hfb] at F2 ⊢
  clear hfb A2 S1 b1
  go_wp2_with fail
  go_loopw [11] (fun i wr => ∃ k : Nat, k ≤ n ∧ i = .int .i64 k ∧ (∃ v, FileAt wr w.heap.size fb v name base size (Pl.built size (zs.take k))) ∧ Below w.heap.size w wr) (fun i _ => n - (intOf i).toNat)
  case atStart => exact ⟨0, Nat.zero_le _, rfl, ⟨_, F2⟩, b2⟩
  case round =>
    clear F2 b2
    obtain ⟨k, hk, rfl, ⟨v, F⟩, bel⟩ := hrel
    by_cases hlt : k < n
    · obtain ⟨b, off, rfl, hb, hc⟩ := HR.out k (by rw [HN.out]; exact hlt)
      have hc' := (bel.cell (p := ⟨b, off + k, none⟩) hb).trans hc
      obtain ⟨z, hz⟩ : ∃ z, zs.getD k 0 = z := ⟨_, rfl⟩
      rw [hz] at hc'
      have HZ : Hid (zs.getD k 0 = z) := hz
      clear hz hc
      go_wp2_with fail
      refine (addLine_any _ z F ?_ ?_ bel.size).mono ?_
      · exact (Pl.built_good size _ h3).pos
      · have h5 := Pl.built_len size (zs.take k)
        have h6 : (zs.take k).length ≤ k := by simp; omega
        omega
      rintro e w3 ⟨rfl, ⟨v3, F3⟩, b3⟩
      rw [← HZ.out, ← built_take size zs k (by rw [HN.out]; exact hlt)] at F3
      have b4 := bel.trans b3
      clear F bel b3 hc'
      go_wp2
      go_roundw
      case rel => exact ⟨k + 1, by omega, by go_num, ⟨v3, F3⟩, b4⟩
      case measure => simp [intOf]; omega
    · have hk' : k = n := by omega
      subst hk'
      rw [List.take_of_length_le (by rw [HN.out]; exact Nat.le_refl _)] at F
      go_wp2
      go_ret
      exact ⟨fb, v, rfl, F, bel⟩

end Go.Proofs.Yoedtw
