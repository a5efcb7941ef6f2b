/-
  The proof of 'Rows.FnStringEndIgnoresSurroundingsSaid'.
-/
import Derived.Test.Qxb6600579aRows
import Derived.Test.Qxb6600579aEnds
import Derived.WalkKit
import Derived.ProofKit
import Derived.OpenShut
import Derived.ShutString
import Derived.ChangeOld
import Derived.Below
namespace Go.Proofs.Qxb6600579a.fnStringEndIgnoresSurroundings
open Go.ChangeShapes Go.WideShapes Go.ChangeAt Go.RowKit
open Go.ChangeMaps (open_string shut_string)
open Go.Proofs.Qxb6600579a.Plain
set_option linter.unusedVariables false      -- a walk need not use every 'w<i>' (that an integer argument fits its kind)

theorem own : ownKnob Try.prog.godebug = none := by kernel_rfl

theorem ret_bool {a b : Bool} (h : a = b) : Ending.returned (.bool a) = .returned (.bool b) := by rw [h]

/-! ### THE WALK: the Go text returns true; below the heap's size at the call all is as it was. -/
theorem walk (a0 : ByteArray) (a1 : ByteArray) (a2 : ByteArray) (a3 : Int) (w0 : a0.size ≤ maxLen) (w1 : a1.size ≤ maxLen) (w2 : a2.size ≤ maxLen) (w3 : (Lit.int .i64 a3).wf = true) (w : World) :
    Calls Try.prog 7 #[.string a0, .string a1, .string a2, .int .i64 a3] w fun e w' => e = .returned (.bool true) ∧ Below w.heap.size w w' := by
  by_cases hbig : (1048576 : Int) < (a0.size : Int)
  · go_enter Try.func7, Try.ntmps7
    go_wp2
    go_ret
    exact ⟨rfl, Below.refl _ _⟩
  by_cases hbig1 : (1048576 : Int) < (a1.size : Int)
  · go_enter Try.func7, Try.ntmps7
    go_wp2
    all_goals
      go_ret
      exact ⟨rfl, Below.refl _ _⟩
  by_cases hsum1 : (1048576 : Int) < (a0.size : Int) + (a1.size : Int)
  · go_enter Try.func7, Try.ntmps7
    go_wp2
    all_goals
      go_ret
      exact ⟨rfl, Below.refl _ _⟩
  by_cases hbig2 : (1048576 : Int) < (a2.size : Int)
  · go_enter Try.func7, Try.ntmps7
    go_wp2
    all_goals
      go_ret
      exact ⟨rfl, Below.refl _ _⟩
  by_cases hsum2 : (1048576 : Int) < (a0.size : Int) + (a1.size : Int) + (a2.size : Int)
  · go_enter Try.func7, Try.ntmps7
    go_wp2
    all_goals
      go_ret
      exact ⟨rfl, Below.refl _ _⟩
  have hs : a0.size + a1.size + a2.size ≤ 1048576 := by omega
  clear hbig hbig1 hbig2 hsum1 hsum2
  by_cases hneg : a3 < 0
  · go_enter Try.func7, Try.ntmps7
    go_wp2
    go_ret
    exact ⟨rfl, Below.refl _ _⟩
  by_cases hge : (a1.size : Int) ≤ a3
  · go_enter Try.func7, Try.ntmps7
    go_wp2
    go_ret
    exact ⟨rfl, Below.refl _ _⟩
  obtain ⟨i, rfl⟩ := Int.eq_ofNat_of_zero_le (show 0 ≤ a3 by omega)
  have hi : i < a1.size := by omega
  have HJ : Hid ((a0 ++ a1 ++ a2).size = a0.size + a1.size + a2.size) := size_join a0 a1 a2
  clear hneg hge w0 w1 w2 w3
  go_enter Try.func7, Try.ntmps7
  go_wp2_with (go_at_call 15; go_in)
  refine (zzEnd_calls a1 _ _ i rfl (by omega) hi).mono ?_
  rintro e w1 ⟨⟨n, rfl, hn⟩, hb1⟩
  obtain ⟨hn1, hn2⟩ := isEnd_within (bt_bytes a1) hi hn
  have HN : Hid (IsEnd (bt a1) a1.size i n) := hn
  clear hn
  go_wp2_with fail
  refine (zzEnd_calls (a0 ++ a1 ++ a2) _ _ (a0.size + i) (by omega) (by rw [HJ.out]; exact hs) (by rw [HJ.out]; omega)).mono ?_
  rintro e w2 ⟨⟨m, rfl, hm⟩, hb2⟩
  have har := around (bt_bytes a1) (bt_bytes (a0 ++ a1 ++ a2)) hi (by rw [HJ.out]; omega) HN.out (fun k hk => bt_join a0 a1 a2 k hk) hm
  obtain ⟨hA, hB⟩ := har
  rw [HJ.out] at hB
  clear hm
  by_cases hlt : n < a1.size
  · obtain rfl := hA hlt
    clear hA hB
    go_wp2_with fail
    go_ret
    exact ⟨by simp, hb1.trans (hb2.mono hb1.size)⟩
  · obtain ⟨hB1, hB2⟩ := hB (by omega)
    clear hA hB
    go_wp2_with fail
    go_ret
    exact ⟨ret_bool (decide_eq_true (by omega)), hb1.trans (hb2.mono hb1.size)⟩

/-! ### THE ROW's STEP: WRITTEN OUT: LEAVE IT -/
set_option maxRecDepth 100000 in
theorem lifted (os : Os) (started : os.Started) (H : Type) (enc : TypeId × Value → H) :
    ReturnsInHanded {} Try.checked os 7 .any (Rows.fnStringEndIgnoresSurroundingsSpec.pre6 enc Try.prog Try.f7 Rows.fnStringEndIgnoresSurroundingsRow.domain false) (Rows.fnStringEndIgnoresSurroundingsSpec.post enc Try.prog Try.f7 false true false false) := by
  refine returnsInHanded_of_change (C := Try.checked) own started (by kernel_rfl) Try.func7
    (ChangeSpec.witness6 (enc := enc) (C := Try.checked) false ⟨#[], #[.string ByteArray.empty, .string ByteArray.empty, .string ByteArray.empty, .int .i64 0], []⟩ 8 (by kernel_rfl) (by kernel_rfl) (by kernel_rfl) (by kernel_rfl)) ?_
  intro W base args ds gs before hval0 hW hcnd _
  have hval : ∀ (j : Nat) t v, Try.f7.params[j]? = some t → args[j]? = some v → Value.okWide Try.prog W .any base t v := hval0
  have hW' := hW
  obtain ⟨p, q, hA0, hV, rfl, hfz, hnd⟩ := hW
  have hA : DataW.TrodAll enc Try.prog W 0 (fun _ => true) true Try.f7.params.toList args.toList ds p := hA0
  rw [Try.params7] at hA hval
  obtain ⟨v0, vs0, d0, ds0, p0, q0, hargs, rfl, rfl, h0, r0⟩ := trodAll_cons hA
  obtain ⟨v1, vs1, d1, ds1, p1, q1, rfl, rfl, rfl, h1, r1⟩ := trodAll_cons r0
  obtain ⟨v2, vs2, d2, ds2, p2, q2, rfl, rfl, rfl, h2, r2⟩ := trodAll_cons r1
  obtain ⟨v3, vs3, d3, ds3, p3, q3, rfl, rfl, rfl, h3, r3⟩ := trodAll_cons r2
  obtain ⟨rfl, rfl, rfl⟩ := trodAll_nil r3
  obtain rfl : args = #[v0, v1, v2, v3] := by cases args; simp_all
  obtain ⟨rfl, rfl⟩ := trodVars_none hV
  obtain ⟨a0, rfl, rfl, rfl, w0⟩ := open_string Try.underlying9 (hval 0 9 v0 rfl rfl) h0
  obtain ⟨a1, rfl, rfl, rfl, w1⟩ := open_string Try.underlying9 (hval 1 9 v1 rfl rfl) h1
  obtain ⟨a2, rfl, rfl, rfl, w2⟩ := open_string Try.underlying9 (hval 2 9 v2 rfl rfl) h2
  obtain ⟨a3, rfl, rfl, rfl, w3⟩ := open_int Try.underlying3 (hval 3 3 v3 rfl rfl) h3
  clear hA0 hval0
  simp only [List.append_nil] at hW'
  refine (walk a0 a1 a2 a3 w0 w1 w2 w3 W).mono fun e W' ⟨he, bel⟩ => ?_
  subst he
  exact ⟨_, rfl, _, _, _, [], [], [], hW', trodAll_mk1 (shut_bool Try.underlying4 _), (trodAll_cons_mk (shut_string Try.underlying9 w0) (trodAll_cons_mk (shut_string Try.underlying9 w1) (trodAll_cons_mk (shut_string Try.underlying9 w2) (trodAll_cons_mk (shut_int Try.underlying3 w3) trodAll_mk0)))), rfl, bel.frame _, fun h => by cases h⟩

theorem over : Rows.fnStringEndIgnoresSurroundingsRow.holds Try.pinned (OpenSpec.ofChange Rows.fnStringEndIgnoresSurroundingsSpec) :=
  OpenClaim.holds_of_wide 7 Try.f7 rfl rfl rfl rfl rfl rfl rfl ⟨rfl, rfl, rfl, rfl, rfl⟩ rfl rfl rfl rfl rfl (by kernel_rfl) Try.func7 (by kernel_rfl)
    (of_decide_eq_true (by kernel_rfl)) (by unfold Func.isWrapper; first | (rw [if_pos (by decide +kernel)]; kernel_rfl) | (rw [if_neg (by decide +kernel)]; exact ⟨rfl, rfl⟩))
    (fun os started H enc _ => lifted os started H enc)

/-- ████ THE STATEMENT ████ -/
theorem proved : Rows.FnStringEndIgnoresSurroundingsSaid :=
  over
#print axioms proved
end Go.Proofs.Qxb6600579a.fnStringEndIgnoresSurroundings
