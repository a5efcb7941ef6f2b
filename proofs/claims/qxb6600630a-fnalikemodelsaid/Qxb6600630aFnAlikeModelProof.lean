/-
  The proof of 'Rows.FnAlikeModelSaid'.
-/
import Derived.Test.Qxb6600630aRows
import Derived.Test.Qxb6600630aModel
import Derived.Test.Qxb6600630aOpen
import Derived.WalkKit
import Derived.ProofKit
import Derived.OpenShut
import Derived.ShutString
import Derived.ChangeOld
import Derived.Below
namespace Go.Proofs.Qxb6600630a.fnAlikeModel
open Go.ChangeShapes Go.WideShapes Go.ChangeAt Go.RowKit
set_option linter.unusedVariables false

theorem own : ownKnob Try.prog.godebug = none := by kernel_rfl
theorem laidOut : laidOutB Try.prog = true := by kernel_rfl

/-- THE WALK: whatever the input, true; below the heap's size at the call all is as it was. -/
theorem walk (w : World) (xl xm : Bool) (t u : Int)
    (a1 : Option Addr) (n1 c1 b1 o1 : Nat) (f : Nat → ByteArray) (h1 : Rd w 25 a1 n1 c1 b1 o1 fun k => .string (f k)) (hf : ∀ k, k < n1 → (f k).size ≤ maxLen)
    (a2 : Option Addr) (n2 c2 b2 o2 : Nat) (p : Nat → Bool) (h2 : Rd w 29 a2 n2 c2 b2 o2 fun k => .bool (p k))
    (a3 : Option Addr) (n3 c3 b3 o3 : Nat) (g : Nat → ByteArray) (h3 : Rd w 25 a3 n3 c3 b3 o3 fun k => .string (g k)) (hg : ∀ k, k < n3 → (g k).size ≤ maxLen)
    (a4 : Option Addr) (n4 c4 b4 o4 : Nat) (q : Nat → Bool) (h4 : Rd w 29 a4 n4 c4 b4 o4 fun k => .bool (q k)) :
    Calls Try.prog 6 #[.bool xl, .slice a1 n1 c1, .slice a2 n2 c2, .int .i64 t, .bool xm, .slice a3 n3 c3, .slice a4 n4 c4, .int .i64 u] w fun e w' => e = .returned (.bool true) ∧ Below w.heap.size w w' := by
  by_cases e1 : n2 = n1
  · by_cases e2 : n4 = n3
    · subst e1 e2
      exact model_walk w xl xm t u a1 n2 c1 b1 o1 f h1 hf a2 c2 b2 o2 p h2 a3 n4 c3 b3 o3 g h3 hg a4 c4 b4 o4 q h4
    · exact model_odd w xl xm t u a1 n1 c1 b1 o1 f h1 hf a2 n2 c2 b2 o2 p h2 a3 n3 c3 b3 o3 g h3 hg a4 n4 c4 b4 o4 q h4 (.inr ⟨by simp; omega, by simp; omega⟩)
  · exact model_odd w xl xm t u a1 n1 c1 b1 o1 f h1 hf a2 n2 c2 b2 o2 p h2 a3 n3 c3 b3 o3 g h3 hg a4 n4 c4 b4 o4 q h4 (.inl (by simp; omega))

/-! ### THE ROW's STEP -/
set_option maxRecDepth 100000 in
theorem lifted (os : Os) (started : os.Started) (H : Type) (enc : TypeId × Value → H) :
    ReturnsInHanded {} Try.checked os 6 .any (Rows.fnAlikeModelSpec.pre6 enc Try.prog Try.f6 Rows.fnAlikeModelRow.domain false) (Rows.fnAlikeModelSpec.post enc Try.prog Try.f6 false true false false) := by
  refine returnsInHanded_of_change (C := Try.checked) own started (by kernel_rfl) Try.func6
    (ChangeSpec.witness6 (enc := enc) (C := Try.checked) false ⟨#[], #[.bool false, .slice none 0 0, .slice none 0 0, .int .i64 0, .bool false, .slice none 0 0, .slice none 0 0, .int .i64 0], []⟩ 8 (by kernel_rfl) (by kernel_rfl) (by kernel_rfl) (by kernel_rfl)) ?_
  intro W base args ds gs before hval0 hW hcnd _
  have hval : ∀ (j : Nat) t v, Try.f6.params[j]? = some t → args[j]? = some v → Value.okWide Try.prog W .any base t v := hval0
  have hW' := hW
  obtain ⟨p, q, hA0, hV, rfl, hfz, hnd⟩ := hW
  have hA : DataW.TrodAll enc Try.prog W 0 (fun _ => true) true Try.f6.params.toList args.toList ds p := hA0
  rw [Try.params6] at hA hval
  obtain ⟨v0, vs0, d0, ds0, p0, q0, hargs, rfl, rfl, h0, r0⟩ := trodAll_cons hA
  obtain ⟨v1, vs1, d1, ds1, p1, q1, rfl, rfl, rfl, h1, r1⟩ := trodAll_cons r0
  obtain ⟨v2, vs2, d2, ds2, p2, q2, rfl, rfl, rfl, h2, r2⟩ := trodAll_cons r1
  obtain ⟨v3, vs3, d3, ds3, p3, q3, rfl, rfl, rfl, h3, r3⟩ := trodAll_cons r2
  obtain ⟨v4, vs4, d4, ds4, p4, q4, rfl, rfl, rfl, h4, r4⟩ := trodAll_cons r3
  obtain ⟨v5, vs5, d5, ds5, p5, q5, rfl, rfl, rfl, h5, r5⟩ := trodAll_cons r4
  obtain ⟨v6, vs6, d6, ds6, p6, q6, rfl, rfl, rfl, h6, r6⟩ := trodAll_cons r5
  obtain ⟨v7, vs7, d7, ds7, p7, q7, rfl, rfl, rfl, h7, r7⟩ := trodAll_cons r6
  obtain ⟨rfl, rfl, rfl⟩ := trodAll_nil r7
  obtain rfl : args = #[v0, v1, v2, v3, v4, v5, v6, v7] := by cases args; simp_all
  obtain ⟨rfl, rfl⟩ := trodVars_none hV
  obtain ⟨xl, rfl, rfl, rfl⟩ := open_bool Try.underlying4 (hval 0 4 v0 rfl rfl) h0
  obtain ⟨a1, n1, c1, rfl⟩ := okWide_slice Try.underlying25 (hval 1 25 v1 rfl rfl)
  obtain ⟨a2, n2, c2, rfl⟩ := okWide_slice Try.underlying29 (hval 2 29 v2 rfl rfl)
  obtain ⟨t, rfl, rfl, rfl, wt⟩ := open_int Try.underlying3 (hval 3 3 v3 rfl rfl) h3
  obtain ⟨xm, rfl, rfl, rfl⟩ := open_bool Try.underlying4 (hval 4 4 v4 rfl rfl) h4
  obtain ⟨a3, n3, c3, rfl⟩ := okWide_slice Try.underlying25 (hval 5 25 v5 rfl rfl)
  obtain ⟨a4, n4, c4, rfl⟩ := okWide_slice Try.underlying29 (hval 6 29 v6 rfl rfl)
  obtain ⟨u, rfl, rfl, rfl, wu⟩ := open_int Try.underlying3 (hval 7 3 v7 rfl rfl) h7
  have lt1 : ∀ x ∈ p1, x.block < W.heap.size := by obtain ⟨m, hm⟩ := h1; exact DataW.trod_lt m _ _ _ hm
  have lt2 : ∀ x ∈ p2, x.block < W.heap.size := by obtain ⟨m, hm⟩ := h2; exact DataW.trod_lt m _ _ _ hm
  have lt5 : ∀ x ∈ p5, x.block < W.heap.size := by obtain ⟨m, hm⟩ := h5; exact DataW.trod_lt m _ _ _ hm
  have lt6 : ∀ x ∈ p6, x.block < W.heap.size := by obtain ⟨m, hm⟩ := h6; exact DataW.trod_lt m _ _ _ hm
  have g1 := h1
  have g2 := h2
  have g5 := h5
  have g6 := h6
  obtain ⟨m1, f1⟩ := h1
  obtain ⟨m2, f2⟩ := h2
  obtain ⟨m5, f5⟩ := h5
  obtain ⟨m6, f6⟩ := h6
  obtain ⟨b1, o1, f, R1, hf⟩ := rd_strings (by simpa [Value.cells] using f1)
  obtain ⟨b2, o2, pk, R2⟩ := rd_bools (by simpa [Value.cells] using f2)
  obtain ⟨b3, o3, g, R3, hg⟩ := rd_strings (by simpa [Value.cells] using f5)
  obtain ⟨b4, o4, qk, R4⟩ := rd_bools (by simpa [Value.cells] using f6)
  clear hA0 hval0
  refine (walk W xl xm t u a1 n1 c1 b1 o1 f R1 hf a2 n2 c2 b2 o2 pk R2 a3 n3 c3 b3 o3 g R3 hg a4 n4 c4 b4 o4 qk R4).mono fun e W' ⟨he, bel⟩ => ?_
  subst he
  have A25 : ∀ {v : Value} {d : DataW H} {ps : List MemPlace}, DataW.Trod enc Try.prog W 0 (fun _ => true) true 25 v d ps → (∀ x ∈ ps, x.block < W.heap.size) → DataW.Trod enc Try.prog W' 0 (fun b => decide (b < W.heap.size)) true 25 v d ps :=
    fun h hl => Below.trod laidOut (by kernel_rfl) (of_decide_eq_true (by kernel_rfl)) h bel hl
  have A29 : ∀ {v : Value} {d : DataW H} {ps : List MemPlace}, DataW.Trod enc Try.prog W 0 (fun _ => true) true 29 v d ps → (∀ x ∈ ps, x.block < W.heap.size) → DataW.Trod enc Try.prog W' 0 (fun b => decide (b < W.heap.size)) true 29 v d ps :=
    fun h hl => Below.trod laidOut (by kernel_rfl) (of_decide_eq_true (by kernel_rfl)) h bel hl
  exact ⟨_, rfl, _, _, _, [], _, [], hW', trodAll_mk1 (shut_bool Try.underlying4 _),
    (trodAll_cons_mk (shut_bool Try.underlying4 _) (trodAll_cons_mk (A25 g1 lt1) (trodAll_cons_mk (A29 g2 lt2) (trodAll_cons_mk (shut_int Try.underlying3 wt) (trodAll_cons_mk (shut_bool Try.underlying4 _) (trodAll_cons_mk (A25 g5 lt5) (trodAll_cons_mk (A29 g6 lt6) (trodAll_cons_mk (shut_int Try.underlying3 wu) trodAll_mk0)))))))),
    rfl, bel.frame _, fun h => by cases h⟩

theorem over : Rows.fnAlikeModelRow.holds Try.pinned (OpenSpec.ofChange Rows.fnAlikeModelSpec) :=
  OpenClaim.holds_of_wide 6 Try.f6 rfl rfl rfl rfl rfl rfl rfl ⟨rfl, rfl, rfl, rfl, rfl⟩ rfl rfl rfl rfl rfl (by kernel_rfl) Try.func6 (by kernel_rfl)
    (of_decide_eq_true (by kernel_rfl)) (by unfold Func.isWrapper; first | (rw [if_pos (by decide +kernel)]; kernel_rfl) | (rw [if_neg (by decide +kernel)]; exact ⟨rfl, rfl⟩))
    (fun os started H enc _ => lifted os started H enc)

/-- ████ THE STATEMENT ████ -/
theorem proved : Rows.FnAlikeModelSaid :=
  over
#print axioms proved
end Go.Proofs.Qxb6600630a.fnAlikeModel
