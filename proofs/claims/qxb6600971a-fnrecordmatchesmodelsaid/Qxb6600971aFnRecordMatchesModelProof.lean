/-
  The proof of 'Rows.FnRecordMatchesModelSaid'.
-/
import Derived.Test.Qxb6600971aRows
import Derived.Test.Qxb6600971aLaw3
import Derived.Test.Qxb6600971aOpen
import Derived.WalkKit
import Derived.ProofKit
import Derived.OpenShut
import Derived.ChangeOld
import Derived.Below
namespace Go.Proofs.Qxb6600971a.fnRecordMatchesModel
open Go.ChangeShapes Go.WideShapes Go.ChangeAt Go.RowKit
set_option linter.unusedVariables false

theorem own : ownKnob Try.prog.godebug = none := by kernel_rfl
theorem laidOut : laidOutB Try.prog = true := by kernel_rfl

/-! ### THE ROW's STEP -/
set_option maxRecDepth 100000 in
theorem lifted (os : Os) (started : os.Started) (H : Type) (enc : TypeId × Value → H) :
    ReturnsInHanded {} Try.checked os 3 .any (Rows.fnRecordMatchesModelSpec.pre6 enc Try.prog Try.f3 Rows.fnRecordMatchesModelRow.domain false) (Rows.fnRecordMatchesModelSpec.post enc Try.prog Try.f3 false true false false) := by
  refine returnsInHanded_of_change (C := Try.checked) own started (by kernel_rfl) Try.func3
    (ChangeSpec.witness6 (enc := enc) (C := Try.checked) false ⟨#[], #[.slice none 0 0], []⟩ 8 (by kernel_rfl) (by kernel_rfl) (by kernel_rfl) (by kernel_rfl)) ?_
  intro W base args ds gs before hval0 hW hcnd _
  have hval : ∀ (j : Nat) t v, Try.f3.params[j]? = some t → args[j]? = some v → Value.okWide Try.prog W .any base t v := hval0
  have hW' := hW
  obtain ⟨p, q, hA0, hV, rfl, hfz, hnd⟩ := hW
  have hA : DataW.TrodAll enc Try.prog W 0 (fun _ => true) true Try.f3.params.toList args.toList ds p := hA0
  rw [Try.params3] at hA hval
  obtain ⟨v0, vs0, d0, ds0, p0, q0, hargs, rfl, rfl, h0, r0⟩ := trodAll_cons hA
  obtain ⟨rfl, rfl, rfl⟩ := trodAll_nil r0
  obtain rfl : args = #[v0] := by cases args; simp_all
  obtain ⟨rfl, rfl⟩ := trodVars_none hV
  obtain ⟨a0, n0, c0, rfl⟩ := okWide_slice Try.underlying22 (hval 0 22 v0 rfl rfl)
  have lt0 : ∀ x ∈ p0, x.block < W.heap.size := by obtain ⟨m, hm⟩ := h0; exact DataW.trod_lt m _ _ _ hm
  have g0 := h0
  obtain ⟨m0, f0⟩ := h0
  obtain ⟨b0, o0, f, R0⟩ := rd_steps (by simpa [Value.cells] using f0)
  clear hA0 hval0
  refine (law3 W a0 n0 c0 b0 o0 f R0).mono fun e W' ⟨he, bel⟩ => ?_
  subst he
  have A22 : ∀ {v : Value} {d : DataW H} {ps : List MemPlace}, DataW.Trod enc Try.prog W 0 (fun _ => true) true 22 v d ps → (∀ x ∈ ps, x.block < W.heap.size) → DataW.Trod enc Try.prog W' 0 (fun b => decide (b < W.heap.size)) true 22 v d ps :=
    fun h hl => Below.trod laidOut (by kernel_rfl) (of_decide_eq_true (by kernel_rfl)) h bel hl
  exact ⟨_, rfl, _, _, _, [], _, [], hW', trodAll_mk1 (shut_bool Try.underlying4 _),
    (trodAll_cons_mk (A22 g0 lt0) trodAll_mk0),
    rfl, bel.frame _, fun h => by cases h⟩

theorem over : Rows.fnRecordMatchesModelRow.holds Try.pinned (OpenSpec.ofChange Rows.fnRecordMatchesModelSpec) :=
  OpenClaim.holds_of_wide 3 Try.f3 rfl rfl rfl rfl rfl rfl rfl ⟨rfl, rfl, rfl, rfl, rfl⟩ rfl rfl rfl rfl rfl (by kernel_rfl) Try.func3 (by kernel_rfl)
    (of_decide_eq_true (by kernel_rfl)) (by unfold Func.isWrapper; first | (rw [if_pos (by decide +kernel)]; kernel_rfl) | (rw [if_neg (by decide +kernel)]; exact ⟨rfl, rfl⟩))
    (fun os started H enc _ => lifted os started H enc)

/-- ████ THE STATEMENT ████ -/
theorem proved : Rows.FnRecordMatchesModelSaid :=
  over
#print axioms proved
end Go.Proofs.Qxb6600971a.fnRecordMatchesModel
