/-
  'zzAgree_nb1', walked; what the law's own first loop gathers.
-/
import Derived.Test.Qxb6600630aAbs
namespace Go.Proofs.Qxb6600630a
open Go.RowKit

set_option maxHeartbeats 1000000 in
theorem agree_calls (w : World) (n k : Nat) (hk : k < n) (a1 : Option Addr) (c1 b1 o1 : Nat) (f : Nat → ByteArray) (h1 : Rd w 25 a1 n c1 b1 o1 fun k => .string (f k))
    (a2 : Option Addr) (c2 b2 o2 : Nat) (p : Nat → Bool) (h2 : Rd w 29 a2 n c2 b2 o2 fun k => .bool (p k))
    (a3 : Option Addr) (c3 b3 o3 : Nat) (g : Nat → ByteArray) (h3 : Rd w 25 a3 n c3 b3 o3 fun k => .string (g k))
    (a4 : Option Addr) (c4 b4 o4 : Nat) (q : Nat → Bool) (h4 : Rd w 29 a4 n c4 b4 o4 fun k => .bool (q k)) :
    Calls Try.prog 25 #[.slice a1 n c1, .slice a2 n c2, .slice a3 n c3, .slice a4 n c4, .int .i64 (k : Int)] w fun e w' => e = .returned (.bool (ag f g p q k)) ∧ ∃ d, w' = w.drewN d := by
  have i1 := h1.idx k hk
  have i2 := h2.idx k hk
  have i3 := h3.idx k hk
  have i4 := h4.idx k hk
  have d1 := h1.cell k hk
  have d2 := h2.cell k hk
  have d3 := h3.cell k hk
  have d4 := h4.cell k hk
  cases hp : p k
  · rw [hp] at d2
    have HA : Hid (ag f g p q k = false) := by simp [Hid, ag, hp]
    clear hp
    go_enter Try.func25, Try.ntmps25
    go_wp2_with fail
    go_quiet (fail)
    go_wp2_with fail
    go_ret
    exact ⟨by rw [HA.out]; rfl, _, rfl⟩
  · rw [hp] at d2
    cases hq : q k
    · rw [hq] at d4
      have HA : Hid (ag f g p q k = false) := by simp [Hid, ag, hq]
      clear hp hq
      go_enter Try.func25, Try.ntmps25
      go_wp2_with fail
      go_quiet (fail)
      go_wp2_with fail
      go_ret
      exact ⟨by rw [HA.out]; rfl, _, rfl⟩
    · rw [hq] at d4
      by_cases ht : f k = g k
      · have HA : Hid (ag f g p q k = true) := by simp [Hid, ag, hp, hq, ht]
        rw [← ht] at d3
        clear hp hq ht
        go_enter Try.func25, Try.ntmps25
        go_wp2_with fail
        go_quiet (fail)
        go_wp2_with fail
        go_ret
        exact ⟨by rw [HA.out]; rfl, _, rfl⟩
      · have HA : Hid (ag f g p q k = false) := by simp [Hid, ag, ht]
        have ht' := str_ne ht
        clear hp hq ht
        go_enter Try.func25, Try.ntmps25
        go_wp2_with fail
        go_quiet (fail)
        go_wp2_with fail
        go_ret
        exact ⟨by rw [HA.out]; rfl, _, rfl⟩

/-- the last disagreement among the first k; -1: none -/
def lastTo (tl tm : Nat → ByteArray) (kl km : Nat → Bool) : Nat → Int
  | 0 => -1
  | k + 1 => if ag tl tm kl km k then lastTo tl tm kl km k else k

theorem told_last (n : Nat) (tl tm : Nat → ByteArray) (kl km : Nat → Bool) : ∀ k, toldTo n tl tm kl km k = (n : Int) - 1 - lastTo tl tm kl km k
  | 0 => by simp only [toldTo, lastTo]; omega
  | k + 1 => by
    have := told_last n tl tm kl km k
    simp only [toldTo, lastTo]
    split
    · exact this
    · rfl
theorem last_bd (tl tm : Nat → ByteArray) (kl km : Nat → Bool) : ∀ k : Nat, -1 ≤ lastTo tl tm kl km k ∧ lastTo tl tm kl km k ≤ k
  | 0 => by simp [lastTo]
  | k + 1 => by
    have := last_bd tl tm kl km k
    simp only [lastTo]
    split <;> omega
end Go.Proofs.Qxb6600630a
