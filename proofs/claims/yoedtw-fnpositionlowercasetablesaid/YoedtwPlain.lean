/-
  THE PLAIN LAWS: the line table as a list of integers: no Go in sight. By the prover of seat oedt.
-/
import Derived.WalkKit
namespace Go.Proofs.Yoedtw
namespace Pl

/-- What AddLine does to the table. -/
def addLn (size : Int) (ls : List Int) (o : Int) : List Int :=
  if ls.getD (ls.length - 1) 0 < o ∧ o < size then ls ++ [o] else ls

/-- The table behind all proposed starts. -/
def built (size : Int) (zs : List Int) : List Int := zs.foldl (addLn size) [0]

theorem built_nil (size : Int) : built size [] = [0] := rfl
theorem built_snoc (size : Int) (zs : List Int) (z : Int) : built size (zs ++ [z]) = addLn size (built size zs) z := by
  simp [built, List.foldl_append]

/-- A good table: it opens with 0, it rises, every start lies between 0 and the size. -/
structure Good (size : Int) (ls : List Int) : Prop where
  pos : 0 < ls.length
  head : ls.getD 0 0 = 0
  rise : ∀ i j, i < j → j < ls.length → ls.getD i 0 < ls.getD j 0
  low : ∀ i, i < ls.length → 0 ≤ ls.getD i 0
  high : ∀ i, i < ls.length → ls.getD i 0 ≤ size

theorem good_one (size : Int) (h : 0 ≤ size) : Good size [0] where
  pos := by simp
  head := rfl
  rise := by intro i j hij hj; simp at hj; omega
  low := by intro i hi; simp at hi; subst hi; simp
  high := by intro i hi; simp at hi; subst hi; simpa using h

theorem getD_snoc_lt (ls : List Int) (o : Int) (i : Nat) (h : i < ls.length) : (ls ++ [o]).getD i 0 = ls.getD i 0 := by
  simp [List.getD, List.getElem?_append_left h]
theorem getD_snoc_at (ls : List Int) (o : Int) : (ls ++ [o]).getD ls.length 0 = o := by
  simp [List.getD]

theorem Good.snoc {size : Int} {ls : List Int} (g : Good size ls) {o : Int} (h1 : ls.getD (ls.length - 1) 0 < o) (h2 : o < size) : Good size (ls ++ [o]) where
  pos := by simp
  head := by rw [getD_snoc_lt _ _ _ g.pos]; exact g.head
  rise := by
    intro i j hij hj
    simp at hj
    by_cases e : j < ls.length
    · rw [getD_snoc_lt _ _ _ e, getD_snoc_lt _ _ _ (by omega)]; exact g.rise i j hij e
    · have : j = ls.length := by omega
      subst this
      rw [getD_snoc_at, getD_snoc_lt _ _ _ hij]
      by_cases e2 : i = ls.length - 1
      · subst e2; exact h1
      · have := g.rise i (ls.length - 1) (by omega) (by omega); omega
  low := by
    intro i hi
    simp at hi
    by_cases e : i < ls.length
    · rw [getD_snoc_lt _ _ _ e]; exact g.low i e
    · have : i = ls.length := by omega
      subst this
      rw [getD_snoc_at]
      have := g.low (ls.length - 1) (by have := g.pos; omega)
      omega
  high := by
    intro i hi
    simp at hi
    by_cases e : i < ls.length
    · rw [getD_snoc_lt _ _ _ e]; exact g.high i e
    · have : i = ls.length := by omega
      subst this
      rw [getD_snoc_at]; omega

theorem addLn_good {size : Int} {ls : List Int} (g : Good size ls) (o : Int) : Good size (addLn size ls o) := by
  unfold addLn
  split
  · rename_i h; exact g.snoc h.1 h.2
  · exact g

theorem addLn_len (size : Int) (ls : List Int) (o : Int) : (addLn size ls o).length ≤ ls.length + 1 := by
  unfold addLn; split <;> simp

theorem foldl_good (size : Int) (zs : List Int) : ∀ ls, Good size ls → Good size (zs.foldl (addLn size) ls) := by
  induction zs with
  | nil => intro ls h; exact h
  | cons z zs ih => intro ls h; exact ih _ (addLn_good h z)

theorem foldl_len (size : Int) (zs : List Int) : ∀ ls, (zs.foldl (addLn size) ls).length ≤ ls.length + zs.length := by
  induction zs with
  | nil => intro ls; simp
  | cons z zs ih => intro ls; have := ih (addLn size ls z); have := addLn_len size ls z; simp; omega

theorem built_good (size : Int) (zs : List Int) (h : 0 ≤ size) : Good size (built size zs) := foldl_good size zs _ (good_one size h)
theorem built_len (size : Int) (zs : List Int) : (built size zs).length ≤ zs.length + 1 := by have := foldl_len size zs [0]; simp [built] at *; omega

/-- How many starts lie at or below x. -/
def lineOf (ls : List Int) (x : Int) : Nat := (ls.filter fun z => decide (z ≤ x)).length

/-- The column that goes with it. -/
def colOf (ls : List Int) (x : Int) : Int := if lineOf ls x = 0 then 0 else x - ls.getD (lineOf ls x - 1) 0 + 1

/-- L parts the table: what lies ahead of it is at or below x, what lies behind is above. -/
structure Parts (ls : List Int) (x : Int) (L : Nat) : Prop where
  le : L ≤ ls.length
  yes : ∀ i, i < L → ls.getD i 0 ≤ x
  no : ∀ i, L ≤ i → i < ls.length → x < ls.getD i 0

theorem lineOf_cons (z : Int) (ls : List Int) (x : Int) : lineOf (z :: ls) x = (if z ≤ x then 1 else 0) + lineOf ls x := by
  unfold lineOf
  by_cases h : z ≤ x <;> simp [h] <;> omega

/-- Whoever parts the table is the number of starts at or below x. -/
theorem Parts.eq {x : Int} : ∀ {ls : List Int} {L : Nat}, Parts ls x L → L = lineOf ls x
  | [], L, p => by have := p.le; simp at this; subst this; rfl
  | z :: ls, 0, p => by
    have h0 := p.no 0 (by omega) (by simp)
    have hz : ¬ z ≤ x := by simpa using h0
    have q : Parts ls x 0 := ⟨by omega, fun i h => absurd h (by omega), fun i _ h => by have := p.no (i + 1) (by omega) (by simpa using h); simpa using this⟩
    rw [lineOf_cons, if_neg hz, ← Parts.eq q]
  | z :: ls, L + 1, p => by
    have h0 := p.yes 0 (by omega)
    have hz : z ≤ x := by simpa using h0
    have q : Parts ls x L := ⟨by have := p.le; simpa using this, fun i h => by have := p.yes (i + 1) (by omega); simpa using this, fun i h1 h2 => by have := p.no (i + 1) (by omega) (by simpa using h2); simpa using this⟩
    rw [lineOf_cons, if_pos hz, ← Parts.eq q]; omega

/-- A table that rises is parted. -/
theorem parts_of_rise (x : Int) : ∀ (ls : List Int), (∀ i j, i < j → j < ls.length → ls.getD i 0 < ls.getD j 0) → Parts ls x (lineOf ls x)
  | [], _ => ⟨by simp [lineOf], fun i h => absurd h (by simp [lineOf]), fun i _ h => absurd h (by simp)⟩
  | z :: ls, hr => by
    have ih := parts_of_rise x ls (fun i j hij hj => by have := hr (i + 1) (j + 1) (by omega) (by simpa using hj); simpa using this)
    rw [lineOf_cons]
    by_cases hz : z ≤ x
    · rw [if_pos hz]
      refine ⟨by have := ih.le; simp; omega, ?_, ?_⟩
      · intro i hi
        cases i with
        | zero => simpa using hz
        | succ i => have := ih.yes i (by omega); simpa using this
      · intro i h1 h2
        cases i with
        | zero => omega
        | succ i => have := ih.no i (by omega) (by simpa using h2); simpa using this
    · rw [if_neg hz]
      have all : ∀ i, i < ls.length → x < ls.getD i 0 := by
        intro i hi
        have h1 : z < ls.getD i 0 := hr 0 (i + 1) (by omega) (by simpa using hi)
        omega
      have h0 : lineOf ls x = 0 := by
        by_cases e : lineOf ls x = 0
        · exact e
        · have a := ih.yes 0 (by omega)
          have b := all 0 (by have := ih.le; omega)
          omega
      rw [h0]
      refine ⟨by omega, fun i h => absurd h (by omega), ?_⟩
      intro i h1 h2
      cases i with
      | zero => simp; omega
      | succ i => have := all i (by simpa using h2); simpa using this

theorem Good.parts {size : Int} {ls : List Int} (g : Good size ls) (x : Int) : Parts ls x (lineOf ls x) := parts_of_rise x ls g.rise

theorem Good.line_le {size : Int} {ls : List Int} (g : Good size ls) (x : Int) : lineOf ls x ≤ ls.length := (g.parts x).le
theorem Good.line_pos {size : Int} {ls : List Int} (g : Good size ls) {x : Int} (h : 0 ≤ x) : 1 ≤ lineOf ls x := by
  by_cases e : lineOf ls x = 0
  · have := (g.parts x).no 0 (by omega) g.pos
    rw [g.head] at this; omega
  · omega
theorem Good.line_zero {size : Int} {ls : List Int} (g : Good size ls) {x : Int} (h : x < 0) : lineOf ls x = 0 := by
  by_cases e : lineOf ls x = 0
  · exact e
  · have := (g.parts x).yes 0 (by omega)
    rw [g.head] at this; omega
theorem Good.line_all {size : Int} {ls : List Int} (g : Good size ls) {x : Int} (h : size ≤ x) : lineOf ls x = ls.length := by
  have p := g.parts x
  by_cases e : lineOf ls x < ls.length
  · have a := p.no _ (Nat.le_refl _) e
    have b := g.high _ e
    omega
  · have := p.le; omega
theorem Good.line_mono {size : Int} {ls : List Int} (g : Good size ls) {x y : Int} (h : x ≤ y) : lineOf ls x ≤ lineOf ls y := by
  have p := g.parts x
  have q := g.parts y
  by_cases e : lineOf ls y < lineOf ls x
  · have a := q.no _ (Nat.le_refl _) (by have := p.le; omega)
    have b := p.yes _ e
    omega
  · omega
theorem colOf_zero {ls : List Int} {x : Int} (h : lineOf ls x = 0) : colOf ls x = 0 := by simp [colOf, h]
theorem colOf_pos {ls : List Int} {x : Int} (h : 1 ≤ lineOf ls x) : colOf ls x = x - ls.getD (lineOf ls x - 1) 0 + 1 := by
  unfold colOf; rw [if_neg (by omega)]
theorem Good.col_ge {size : Int} {ls : List Int} (g : Good size ls) {x : Int} (h : 1 ≤ lineOf ls x) : 1 ≤ colOf ls x := by
  rw [colOf_pos h]
  have := (g.parts x).yes (lineOf ls x - 1) (by omega)
  omega

end Pl
end Go.Proofs.Yoedtw
