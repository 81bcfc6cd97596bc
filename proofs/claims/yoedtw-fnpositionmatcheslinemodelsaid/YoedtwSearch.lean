/-
  The two searches: searchInts (by halves) and zzModelLine (a scan): both give the number of starts at or below x.
-/
import Derived.Test.YoedtwLeaf
namespace Go.Proofs.Yoedtw
open Go.RowKit

theorem ret_int {k : IntKind} {a b : Int} (h : a = b) : Ending.returned (.int k a) = .returned (.int k b) := by rw [h]
theorem ret_int2 {k : IntKind} {a b c d : Int} (h : a = b) (h' : c = d) : Ending.returned (.tuple #[.int k a, .int k c]) = .returned (.tuple #[.int k b, .int k d]) := by rw [h, h']

theorem up_to {ls : List Int} {x : Int} {m : Nat} (hr : ∀ i j, i < j → j < ls.length → ls.getD i 0 < ls.getD j 0) (hm : m < ls.length) (h : ls.getD m 0 ≤ x) : ∀ i, i < m + 1 → ls.getD i 0 ≤ x := by
  intro i hi
  by_cases e : i = m
  · subst e; exact h
  · have := hr i m (by omega) hm; omega
theorem down_to {ls : List Int} {x : Int} {m : Nat} (hr : ∀ i j, i < j → j < ls.length → ls.getD i 0 < ls.getD j 0) (h : x < ls.getD m 0) : ∀ i, m ≤ i → i < ls.length → x < ls.getD i 0 := by
  intro i hi hl
  by_cases e : i = m
  · subst e; exact h
  · have := hr m i (by omega) hl; omega

set_option maxHeartbeats 400000 in
theorem searchInts_any (g n cap : Nat) (ls : List Int) (x : Int) (w : World) (hn : ls.length = n) (hbig : n ≤ 1048576)
    (hr : ∀ i j, i < j → j < ls.length → ls.getD i 0 < ls.getD j 0)
    (hc : ∀ j, j < ls.length → w.cell? ⟨g, j, none⟩ = some (.int .i64 (ls.getD j 0))) :
    Calls Edtg.prog 34 #[.slice (some ⟨g, 0, none⟩) n cap, .int .i64 x] w fun e w' => e = .returned (.int .i64 ((Pl.lineOf ls x : Int) - 1)) ∧ w' = w := by
  subst hn
  go_enter Edtg.func34, Edtg.ntmps34
  go_wp2
  go_loop [5, 6] (fun lo hi => ∃ l h : Nat, l ≤ h ∧ h ≤ ls.length ∧ lo = .int .i64 l ∧ hi = .int .i64 h ∧ (∀ i, i < l → ls.getD i 0 ≤ x) ∧ (∀ i, h ≤ i → i < ls.length → x < ls.getD i 0))
    (fun lo hi => (intOf hi).toNat - (intOf lo).toNat)
  case atStart => exact ⟨0, ls.length, Nat.zero_le _, Nat.le_refl _, rfl, rfl, fun i h => absurd h (by omega), fun i h h' => absurd h (by omega)⟩
  case round =>
    obtain ⟨l, h, hlh, hh, rfl, rfl, hy, hno⟩ := hrel
    by_cases hlt : l < h
    · have hm : l + (h - l) / 2 < ls.length := by omega
      have HY : Hid (∀ i, i < l → ls.getD i 0 ≤ x) := hy
      have HN : Hid (∀ i, h ≤ i → i < ls.length → x < ls.getD i 0) := hno
      have HR : Hid (∀ i j, i < j → j < ls.length → ls.getD i 0 < ls.getD j 0) := hr
      obtain ⟨z, hz⟩ : ∃ z, ls.getD (l + (h - l) / 2) 0 = z := ⟨_, rfl⟩
      have hcell : w.cell? ⟨g, l + (h - l) / 2, none⟩ = some (.int .i64 z) := by rw [← hz]; exact hc _ hm
      have HE : Hid (ls.getD (l + (h - l) / 2) 0 = z) := hz
      clear hy hno hr hc hz
      go_wp2
      · have ht : z ≤ x := by assumption
        go_round
        case rel => exact ⟨l + (h - l) / 2 + 1, h, by omega, hh, by go_num, rfl, up_to HR.out hm (by rw [HE.out]; exact ht), HN.out⟩
        case measure => simp only [intOf]; omega
      · have ht : x < z := by assumption
        go_round
        case rel => exact ⟨l, l + (h - l) / 2, by omega, by omega, rfl, by go_num, HY.out, down_to HR.out (by rw [HE.out]; exact ht)⟩
        case measure => simp only [intOf]; omega
    · go_wp2
      go_ret
      refine ⟨ret_int ?_, rfl⟩
      have : l = h := by omega
      subst this
      rw [← Pl.Parts.eq ⟨hh, hy, hno⟩]

/-- What the scan holds behind k rounds: the last index below k whose start is at or below x, plus one. -/
def scanTo (ls : List Int) (x : Int) : Nat → Nat
  | 0 => 0
  | k + 1 => if ls.getD k 0 ≤ x then k + 1 else scanTo ls x k
theorem scanTo_le (ls : List Int) (x : Int) : ∀ k, scanTo ls x k ≤ k
  | 0 => Nat.le_refl _
  | k + 1 => by have := scanTo_le ls x k; unfold scanTo; split <;> omega
theorem scanTo_yes (ls : List Int) (x : Int) (k : Nat) (h : ls.getD k 0 ≤ x) : scanTo ls x (k + 1) = k + 1 := by simp only [scanTo]; rw [if_pos h]
theorem scanTo_no (ls : List Int) (x : Int) (k : Nat) (h : x < ls.getD k 0) : scanTo ls x (k + 1) = scanTo ls x k := by simp only [scanTo]; rw [if_neg (by omega)]
theorem scanTo_above (ls : List Int) (x : Int) : ∀ k i, scanTo ls x k ≤ i → i < k → x < ls.getD i 0
  | 0, i, _, h => absurd h (by omega)
  | k + 1, i, h, h' => by
    by_cases e : ls.getD k 0 ≤ x
    · rw [scanTo_yes ls x k e] at h; omega
    · rw [scanTo_no ls x k (by omega)] at h
      by_cases e' : i = k
      · subst e'; omega
      · exact scanTo_above ls x k i h (by omega)
theorem scanTo_at (ls : List Int) (x : Int) : ∀ k, 0 < scanTo ls x k → ls.getD (scanTo ls x k - 1) 0 ≤ x
  | 0, h => absurd h (by simp [scanTo])
  | k + 1, h => by
    by_cases e : ls.getD k 0 ≤ x
    · rw [scanTo_yes ls x k e]; exact e
    · rw [scanTo_no ls x k (by omega)] at h ⊢; exact scanTo_at ls x k h
theorem scanTo_all {ls : List Int} (x : Int) (hr : ∀ i j, i < j → j < ls.length → ls.getD i 0 < ls.getD j 0) : scanTo ls x ls.length = Pl.lineOf ls x := by
  refine Pl.Parts.eq ⟨scanTo_le _ _ _, ?_, fun i h h' => scanTo_above ls x _ i h h'⟩
  intro i hi
  have ha := scanTo_at ls x ls.length (by omega)
  have hl := scanTo_le ls x ls.length
  exact up_to hr (by omega) ha i (by omega)

set_option maxHeartbeats 400000 in
theorem modelLine_any (g n cap : Nat) (ls : List Int) (x : Int) (w : World) (hn : ls.length = n) (hbig : n ≤ 1048576) (hx1 : -2147483648 ≤ x) (hx2 : x ≤ 2147483648)
    (hr : ∀ i j, i < j → j < ls.length → ls.getD i 0 < ls.getD j 0) (hb : ∀ i, i < ls.length → 0 ≤ ls.getD i 0 ∧ ls.getD i 0 ≤ 536870912)
    (hc : ∀ j, j < ls.length → w.cell? ⟨g, j, none⟩ = some (.int .i64 (ls.getD j 0))) :
    Calls Edtg.prog 21 #[.slice (some ⟨g, 0, none⟩) n cap, .int .i64 x] w fun e w' => e = .returned (.tuple #[.int .i64 (Pl.lineOf ls x), .int .i64 (Pl.colOf ls x)]) ∧ ∃ n, w' = w.drewN n := by
  subst hn
  have HR : Hid (∀ i j, i < j → j < ls.length → ls.getD i 0 < ls.getD j 0) := hr
  have HB : Hid (∀ i, i < ls.length → 0 ≤ ls.getD i 0 ∧ ls.getD i 0 ≤ 536870912) := hb
  have HC : Hid (∀ j, j < ls.length → w.cell? ⟨g, j, none⟩ = some (.int .i64 (ls.getD j 0))) := hc
  clear hr hb hc
  go_enter Edtg.func21, Edtg.ntmps21
  go_wp2
  go_loop [6, 7] (fun ln i => ∃ k : Nat, k ≤ ls.length ∧ i = .int .i64 k ∧ ln = .int .i64 (scanTo ls x k)) (fun _ i => ls.length - (intOf i).toNat)
  case atStart => exact ⟨0, Nat.zero_le _, rfl, rfl⟩
  case round =>
    obtain ⟨k, hk, rfl, rfl⟩ := hrel
    by_cases hlt : k < ls.length
    · obtain ⟨z, hz⟩ : ∃ z, ls.getD k 0 = z := ⟨_, rfl⟩
      have hcell : w.cell? ⟨g, k, none⟩ = some (.int .i64 z) := by rw [← hz]; exact HC.out _ hlt
      have HE : Hid (ls.getD k 0 = z) := hz
      clear hz
      go_wp2
      · have ht : z ≤ x := by assumption
        go_round
        case rel => exact ⟨k + 1, by omega, by go_num, by rw [scanTo_yes ls x k (by rw [HE.out]; exact ht)]; go_num⟩
        case measure => simp only [intOf]; omega
      · have ht : x < z := by assumption
        go_round
        case rel => exact ⟨k + 1, by omega, by go_num, by rw [scanTo_no ls x k (by rw [HE.out]; exact ht)]⟩
        case measure => simp only [intOf]; omega
    · have hk' : k = ls.length := by omega
      subst hk'
      rw [scanTo_all x HR.out]
      have hle : Pl.lineOf ls x ≤ ls.length := (Pl.parts_of_rise x ls HR.out).le
      by_cases h0 : Pl.lineOf ls x = 0
      · have HF : Hid (Pl.colOf ls x = 0) := Pl.colOf_zero h0
        have H0 : Hid (Pl.lineOf ls x = 0) := h0
        rw [h0]
        clear h0 hle
        go_wp2
        go_ret2
        exact ⟨ret_int2 (by rw [H0.out]; rfl) HF.out.symm, 0, rfl⟩
      · have HF : Hid (Pl.colOf ls x = x - ls.getD (Pl.lineOf ls x - 1) 0 + 1) := Pl.colOf_pos (by omega)
        have hcell := HC.out (Pl.lineOf ls x - 1) (by omega)
        have hbb := HB.out (Pl.lineOf ls x - 1) (by omega)
        obtain ⟨z, hz⟩ : ∃ z, ls.getD (Pl.lineOf ls x - 1) 0 = z := ⟨_, rfl⟩
        rw [hz] at hcell hbb
        have HZ : Hid (ls.getD (Pl.lineOf ls x - 1) 0 = z) := hz
        obtain ⟨L, hL⟩ : ∃ L, Pl.lineOf ls x = L := ⟨_, rfl⟩
        have HL : Hid (Pl.lineOf ls x = L) := hL
        rw [hL] at hcell hle h0 ⊢
        have hb1 := hbb.1
        have hb2 := hbb.2
        have h1 : 1 ≤ L := by omega
        clear hz hL hbb h0
        go_wp2
        go_quiet (fail)
        go_wp2
        go_ret2
        exact ⟨ret_int2 (by rw [HL.out]) (by rw [HF.out, HZ.out]), _, rfl⟩

end Go.Proofs.Yoedtw
