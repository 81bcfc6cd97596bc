/-
  From what the shell knows of a slice of integers that came in to 'RowIn' of its elements.
-/
import Derived.Test.YoedtwCopy
import Derived.ProofKit
namespace Go.Proofs.Yoedtw
open Go.RowKit

theorem rowIn_of {w : World} {a : Option Addr} {len cap : Nat} {zs : List Int} (h : (a = none ∧ len = 0 ∧ cap = 0 ∧ zs = []) ∨
    ∃ x, a = some x ∧ len ≤ cap ∧ cap ≤ maxLen ∧ zs.length = cap ∧ (∀ i, i < zs.length → w.cell? (x.add i) = some (.int .i64 (zs.getD i 0))) ∧ ∀ n ∈ zs, (Lit.int .i64 n).wf = true) :
    (zs.take len).length = len ∧ len ≤ 9223372036854775807 ∧ RowIn w w.heap.size a (zs.take len) := by
  rcases h with ⟨rfl, rfl, rfl, rfl⟩ | ⟨x, rfl, hl, hm, hz, hc, _⟩
  · exact ⟨rfl, by omega, fun k hk => absurd hk (by simp)⟩
  · unfold maxLen at hm
    refine ⟨by simp; omega, by omega, ?_⟩
    intro k hk
    have hk' : k < len := by simp at hk; omega
    obtain ⟨b, off, spot⟩ := x
    have hspot : spot = none := by simpa [Addr.add] using World.cell?_spot (hc 0 (by omega))
    subst hspot
    have h1 := hc k (by omega)
    rw [Addr.add_lit] at h1
    refine ⟨b, off, rfl, World.block_lt_of_cell? _ _ h1, ?_⟩
    rw [h1]
    simp [List.getD, hk']

end Go.Proofs.Yoedtw
