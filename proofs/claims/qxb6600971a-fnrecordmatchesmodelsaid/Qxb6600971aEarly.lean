/-
  The model's two questions, walked: 'firstOrAboveAllEarlier', 'acceptedLater'.
-/
import Derived.Test.Qxb6600971aModel
import Derived.Test.Qxb6600971aSeen
namespace Go.Proofs.Qxb6600971a
open Go.RowKit Go.Deep

theorem str_ne' {a b : ByteArray} (h : ¬ a = b) : (a.toList == b.toList) = false := by
  rw [ByteArray.toList_eq, ByteArray.toList_eq]
  apply beq_eq_false_iff_ne.2
  intro e
  apply h
  apply ByteArray.ext
  exact Array.ext' e

/-- what is known behind j rounds -/
def Best (f : Nat → St) (i j : Nat) (seen : Bool) (best : Int) : Prop :=
  (seen = false → ∀ q, q < j → (f q).id ≠ (f i).id) ∧ (seen = true → (∃ q, q < j ∧ (f q).id = (f i).id ∧ (f q).seq = best) ∧ ∀ q, q < j → (f q).id = (f i).id → (f q).seq ≤ best)

theorem best_start (f : Nat → St) (i : Nat) : Best f i 0 false 0 := ⟨fun _ q hq => by omega, fun e => by cases e⟩
theorem best_skip {f : Nat → St} {i j : Nat} {seen : Bool} {best : Int} (h : Best f i j seen best) (he : ¬ (f j).id = (f i).id) : Best f i (j + 1) seen best := by
  refine ⟨fun e q hq => ?_, fun e => ?_⟩
  · by_cases g : q = j
    · subst g; exact he
    · exact h.1 e q (by omega)
  · obtain ⟨⟨q, h1, h2⟩, h3⟩ := h.2 e
    refine ⟨⟨q, by omega, h2⟩, fun q hq hid => ?_⟩
    by_cases g : q = j
    · subst g; exact absurd hid he
    · exact h3 q (by omega) hid
theorem best_first {f : Nat → St} {i j : Nat} {best : Int} (h : Best f i j false best) (he : (f j).id = (f i).id) : Best f i (j + 1) true (f j).seq := by
  refine ⟨(fun e => by cases e), fun _ => ⟨⟨j, by omega, he, rfl⟩, fun q hq hid => ?_⟩⟩
  by_cases g : q = j
  · subst g; exact Int.le_refl _
  · exact absurd hid (h.1 rfl q (by omega))
theorem best_more {f : Nat → St} {i j : Nat} {best : Int} (h : Best f i j true best) (he : (f j).id = (f i).id) (hg : best < (f j).seq) : Best f i (j + 1) true (f j).seq := by
  refine ⟨(fun e => by cases e), fun _ => ⟨⟨j, by omega, he, rfl⟩, fun q hq hid => ?_⟩⟩
  by_cases g : q = j
  · subst g; exact Int.le_refl _
  · have := (h.2 rfl).2 q (by omega) hid
    omega
theorem best_less {f : Nat → St} {i j : Nat} {best : Int} (h : Best f i j true best) (hg : ¬ best < (f j).seq) : Best f i (j + 1) true best := by
  obtain ⟨⟨q, h1, h2⟩, h3⟩ := h.2 rfl
  refine ⟨(fun e => by cases e), fun _ => ⟨⟨q, by omega, h2⟩, fun q hq hid => ?_⟩⟩
  by_cases g : q = j
  · subst g; omega
  · exact h3 q (by omega) hid
theorem best_none {f : Nat → St} {i : Nat} {best : Int} (h : Best f i i false best) : acc f i = true := (acc_iff f i).2 (fun j hj e => absurd e (h.1 rfl j hj))
theorem best_some {f : Nat → St} {i : Nat} {best : Int} (h : Best f i i true best) : acc f i = decide (best < (f i).seq) := by
  obtain ⟨⟨q, h1, h2, h3⟩, h4⟩ := h.2 rfl
  by_cases g : best < (f i).seq
  · rw [decide_eq_true g]
    exact (acc_iff f i).2 (fun j hj e => by have := h4 j hj e; omega)
  · rw [decide_eq_false g, ← Bool.not_eq_true]
    intro q2
    have := (acc_iff f i).1 q2 q h1 h2
    omega

set_option maxHeartbeats 1000000 in
theorem early_calls (w : World) (a : Option Addr) (n cap b off : Nat) (f : Nat → St) (i : Nat) (h : RdS w a n cap b off f) (hi : i < n) (hn : n ≤ 65536) :
    Calls Try.prog 9 #[.slice a n cap, .int .i64 i] w fun e w' => e = .returned (.bool (acc f i)) ∧ ∃ d, w' = w.drewN d := by
  obtain ⟨p0, p1, _, _, _⟩ := h.cells hi
  have hii := h.idx i hi
  have H : Hid (RdS w a n cap b off f) := h
  clear h
  go_enter Try.func9, Try.ntmps9
  go_wp2_with fail
  go_loopw [5, 6, 7] (fun s v jv wr => ∃ (j d : Nat) (seen : Bool) (best : Int), s = .bool seen ∧ v = .int .u64 best ∧ jv = .int .i64 j ∧ j ≤ i ∧ wr = w.drewN d ∧ Hid (Best f i j seen best)) (fun _ _ jv _ => i - (intOf jv).toNat)
  case atStart => exact ⟨0, 0, false, 0, rfl, rfl, rfl, by omega, rfl, best_start f i⟩
  case round =>
    obtain ⟨j, d, seen, best, rfl, rfl, rfl, hj, rfl, hB⟩ := hrel
    by_cases hlt : j < i
    · obtain ⟨q0, q1, _, _, _⟩ := H.out.cells (k := j) (by omega)
      have hij := H.out.idx j (by omega)
      by_cases he : (f j).id = (f i).id
      · have HE : Hid ((f j).id = (f i).id) := he
        rw [he] at q0
        clear he
        cases seen
        · go_wp2_with fail
          go_quiet (fail)
          go_wp2_with fail
          go_roundw
          case rel => exact ⟨j + 1, _, true, _, rfl, rfl, by go_num, by omega, rfl, best_first hB.out HE.out⟩
          case measure => simp [intOf]; omega
        · by_cases hg : best < (f j).seq
          · go_wp2_with fail
            go_quiet (fail)
            go_wp2_with fail
            go_roundw
            case rel => exact ⟨j + 1, _, true, _, rfl, rfl, by go_num, by omega, rfl, best_more hB.out HE.out hg⟩
            case measure => simp [intOf]; omega
          · go_wp2_with fail
            go_quiet (fail)
            go_wp2_with fail
            go_roundw
            case rel => exact ⟨j + 1, _, true, best, rfl, rfl, by go_num, by omega, rfl, best_less hB.out (by omega)⟩
            case measure => simp [intOf]; omega
      · have hne := str_ne' he
        go_wp2_with fail
        go_quiet (fail)
        go_wp2_with fail
        go_roundw
        case rel => exact ⟨j + 1, _, seen, best, rfl, rfl, by go_num, by omega, rfl, best_skip hB.out he⟩
        case measure => simp [intOf]; omega
    · obtain rfl : j = i := by omega
      cases seen
      · have HA : Hid (acc f j = true) := best_none hB.out
        go_wp2_with fail
        go_ret
        refine ⟨?_, d, rfl⟩
        rw [HA.out]
        simp
      · have HA : Hid (acc f j = decide (best < (f j).seq)) := best_some hB.out
        by_cases hg : best < (f j).seq
        · go_wp2_with fail
          go_ret
          refine ⟨?_, d, rfl⟩
          rw [HA.out]
          simp [hg]
        · go_wp2_with fail
          go_ret
          refine ⟨?_, d, rfl⟩
          rw [HA.out]
          simp
          omega
end Go.Proofs.Qxb6600971a
