/-
  'Rows.FnOffsetInvertsFileSetPosSaid' proved. The frame: the guide's template as the given shell lays it; the row's last step by 'Below'.
-/
import Derived.Test.YoedtwRows
import Derived.Test.YoedtwWalk3
import Derived.WalkKit
import Derived.ProofKit
import Derived.OpenShut
import Derived.ShutString
import Derived.ChangeOld
import Derived.Below
namespace Go.Proofs.Yoedtw.fnOffsetInvertsFileSetPos
open Go.ChangeShapes Go.WideShapes Go.ChangeAt Go.RowKit
open Go.ChangeMaps (open_string shut_string)
set_option linter.unusedVariables false      -- a walk need not use every 'w<i>' (that an integer argument fits its kind)

theorem own : ownKnob Edtg.prog.godebug = none := by kernel_rfl

/-! ### STEP 1: THE WALK (YoedtwWalk3): the Go text returns true and turns nothing that was there -/
theorem walk (a0 : ByteArray) (a1 : Int) (a2 : Int) (a3 : Int) (w0 : a0.size ≤ maxLen) (w : World) :
    Calls Edtg.prog 3 #[.string a0, .int .i64 a1, .int .i64 a2, .int .i64 a3] w fun e w' => e = .returned (.bool true) ∧ Below w.heap.size w w' := walk3 a0 a1 a2 a3 w w0

/-! ### THE ROW's STEP: WRITTEN OUT: LEAVE IT -/
set_option maxRecDepth 100000 in
theorem lifted (os : Os) (started : os.Started) (H : Type) (enc : TypeId × Value → H) :
    ReturnsInHanded {} Edtg.checked os 3 .any (Rows.fnOffsetInvertsFileSetPosSpec.pre6 enc Edtg.prog Edtg.f3 Rows.fnOffsetInvertsFileSetPosRow.domain false) (Rows.fnOffsetInvertsFileSetPosSpec.post enc Edtg.prog Edtg.f3 false true false false) := by
  refine returnsInHanded_of_change (C := Edtg.checked) own started (by kernel_rfl) Edtg.func3
    (ChangeSpec.witness6 (enc := enc) (C := Edtg.checked) false ⟨#[], #[.string ByteArray.empty, .int .i64 0, .int .i64 0, .int .i64 0], []⟩ 8 (by kernel_rfl) (by kernel_rfl) (by kernel_rfl) (by kernel_rfl)) ?_
  intro W base args ds gs before hval0 hW hcnd _
  have hval : ∀ (j : Nat) t v, Edtg.f3.params[j]? = some t → args[j]? = some v → Value.okWide Edtg.prog W .any base t v := hval0
  have hW' := hW
  obtain ⟨p, q, hA0, hV, rfl, hfz, hnd⟩ := hW
  have hA : DataW.TrodAll enc Edtg.prog W 0 (fun _ => true) true Edtg.f3.params.toList args.toList ds p := hA0
  rw [Edtg.params3] at hA hval
  obtain ⟨v0, vs0, d0, ds0, p0, q0, hargs, rfl, rfl, h0, r0⟩ := trodAll_cons hA
  obtain ⟨v1, vs1, d1, ds1, p1, q1, rfl, rfl, rfl, h1, r1⟩ := trodAll_cons r0
  obtain ⟨v2, vs2, d2, ds2, p2, q2, rfl, rfl, rfl, h2, r2⟩ := trodAll_cons r1
  obtain ⟨v3, vs3, d3, ds3, p3, q3, rfl, rfl, rfl, h3, r3⟩ := trodAll_cons r2
  obtain ⟨rfl, rfl, rfl⟩ := trodAll_nil r3
  obtain rfl : args = #[v0, v1, v2, v3] := by cases args; simp_all
  obtain ⟨rfl, rfl⟩ := trodVars_none hV
  obtain ⟨a0, rfl, rfl, rfl, w0⟩ := open_string Edtg.underlying9 (hval 0 9 v0 rfl rfl) h0
  obtain ⟨a1, rfl, rfl, rfl, w1⟩ := open_int Edtg.underlying3 (hval 1 3 v1 rfl rfl) h1
  obtain ⟨a2, rfl, rfl, rfl, w2⟩ := open_int Edtg.underlying3 (hval 2 3 v2 rfl rfl) h2
  obtain ⟨a3, rfl, rfl, rfl, w3⟩ := open_int Edtg.underlying3 (hval 3 3 v3 rfl rfl) h3
  clear hA0 hval0
  simp only [List.append_nil] at hW'
  refine (walk a0 a1 a2 a3 w0 W).mono fun e W' ⟨he, bel⟩ => ?_
  subst he
  exact ⟨_, rfl, _, _, _, [], _, [], hW', trodAll_mk1 (shut_bool Edtg.underlying4 _), (trodAll_cons_mk (shut_string Edtg.underlying9 w0) (trodAll_cons_mk (shut_int Edtg.underlying3 w1) (trodAll_cons_mk (shut_int Edtg.underlying3 w2) (trodAll_cons_mk (shut_int Edtg.underlying3 w3) trodAll_mk0)))), rfl, bel.frame _, fun h => by cases h⟩

theorem over : Rows.fnOffsetInvertsFileSetPosRow.holds Edtg.pinned (OpenSpec.ofChange Rows.fnOffsetInvertsFileSetPosSpec) :=
  OpenClaim.holds_of_wide 3 Edtg.f3 rfl rfl rfl rfl rfl rfl rfl ⟨rfl, rfl, rfl, rfl, rfl⟩ rfl rfl rfl rfl rfl (by kernel_rfl) Edtg.func3 (by kernel_rfl)
    (of_decide_eq_true (by kernel_rfl)) (by unfold Func.isWrapper; first | (rw [if_pos (by decide +kernel)]; kernel_rfl) | (rw [if_neg (by decide +kernel)]; exact ⟨rfl, rfl⟩))
    (fun os started H enc _ => lifted os started H enc)

/-- ████ THE STATEMENT ████ -/
theorem proved : Rows.FnOffsetInvertsFileSetPosSaid :=
  over
#print axioms proved
end Go.Proofs.Yoedtw.fnOffsetInvertsFileSetPos
