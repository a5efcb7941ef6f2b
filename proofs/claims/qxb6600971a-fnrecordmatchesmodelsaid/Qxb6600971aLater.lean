/-
  'acceptedLater', walked.
-/
import Derived.Test.Qxb6600971aEarly
namespace Go.Proofs.Qxb6600971a
open Go.RowKit Go.Deep

/-- the column of answers -/
def accs (f : Nat → St) (n : Nat) : List Value := (List.range n).map fun k => .bool (acc f k)
theorem accs_at (f : Nat → St) {n k : Nat} (hk : k < n) : (accs f n)[k]? = some (.bool (acc f k)) := by simp [accs, hk]
theorem accs_len (f : Nat → St) (n : Nat) : (accs f n).length = n := by simp [accs]

theorem later_false {f : Nat → St} {n i : Nat} (h : ∀ q, i < q → q < n → ¬ (acc f q = true ∧ (f q).id = (f i).id)) : later f n i = false := by
  rw [← Bool.not_eq_true]
  intro e
  obtain ⟨j, h1, h2, h3⟩ := (later_iff _ _ _).1 e
  exact h j h2 h1 h3

set_option maxHeartbeats 1000000 in
theorem later_calls (w : World) (a : Option Addr) (n cap b off : Nat) (f : Nat → St) (a2 : Option Addr) (cap2 g i : Nat) (h : RdS w a n cap b off f) (h2 : RdC w 27 a2 n cap2 g (accs f n)) (hi : i < n) (hn : n ≤ 65536) :
    Calls Try.prog 13 #[.slice a n cap, .slice a2 n cap2, .int .i64 i] w fun e w' => e = .returned (.bool (later f n i)) ∧ ∃ d, w' = w.drewN d := by
  obtain ⟨p0, _, _, _, _⟩ := h.cells hi
  have hii := h.idx i hi
  have H : Hid (RdS w a n cap b off f ∧ RdC w 27 a2 n cap2 g (accs f n)) := ⟨h, h2⟩
  clear h h2
  go_enter Try.func13, Try.ntmps13
  go_wp2_with fail
  go_loopw [7] (fun jv wr => ∃ (j d : Nat), jv = .int .i64 j ∧ j ≤ n ∧ wr = w.drewN d ∧ Hid (∀ q, i < q → q < j → ¬ (acc f q = true ∧ (f q).id = (f i).id)) ∧ i < j) (fun jv _ => n - (intOf jv).toNat)
  case atStart => exact ⟨i + 1, 0, by go_num, by omega, rfl, (fun q h1 h2 => by omega), by omega⟩
  case round =>
    obtain ⟨j, d, rfl, hj, rfl, hB, hij⟩ := hrel
    by_cases hlt : j < n
    · obtain ⟨q0, _, _, _, _⟩ := H.out.1.cells hlt
      have hix := H.out.1.idx j hlt
      have hia := H.out.2.idx j hlt
      have hca := H.out.2.cell j _ (accs_at f hlt)
      cases hacc : acc f j
      · rw [hacc] at hca
        go_wp2_with fail
        go_quiet (fail)
        go_wp2_with fail
        go_roundw
        case rel => exact ⟨j + 1, _, by go_num, by omega, rfl, (fun q h1 h2 h3 => by
          by_cases e : q = j
          · subst e; rw [hacc] at h3; cases h3.1
          · exact hB.out q h1 (by omega) h3), by omega⟩
        case measure => simp [intOf]; omega
      · rw [hacc] at hca
        have HA : Hid (acc f j = true) := hacc
        clear hacc
        by_cases he : (f j).id = (f i).id
        · have HL : Hid (later f n i = true) := (later_iff _ _ _).2 ⟨j, hlt, hij, HA.out, he⟩
          rw [he] at q0
          clear he
          go_wp2_with fail
          go_quiet (fail)
          go_wp2_with fail
          go_ret
          refine ⟨?_, d + nq, by simp⟩
          rw [HL.out]
          rfl
        · have hne := str_ne' he
          go_wp2_with fail
          go_quiet (fail)
          go_wp2_with fail
          go_roundw
          case rel => exact ⟨j + 1, _, by go_num, by omega, rfl, (fun q h1 h2 h3 => by
            by_cases e : q = j
            · subst e; exact he h3.2
            · exact hB.out q h1 (by omega) h3), by omega⟩
          case measure => simp [intOf]; omega
    · obtain rfl : j = n := by omega
      have HL : Hid (later f j i = false) := later_false (fun q h1 h2 => hB.out q h1 h2)
      go_wp2_with fail
      go_ret
      refine ⟨?_, d, rfl⟩
      rw [HL.out]
      rfl
end Go.Proofs.Qxb6600971a
