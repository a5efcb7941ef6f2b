/-
  The law's automaton model of 'escapeLen', walked.
-/
import Derived.Test.Qxb6600630aProg
import Derived.Test.Qxb6600630aEscPlain
import Derived.WalkKit
import Derived.WalkSpells
import Derived.Outline
namespace Go.Proofs.Qxb6600630a
open Go.RowKit
open Esc

/-- the k-th byte as a number; 256 beyond the end -/
def bt (s : ByteArray) (k : Nat) : Nat := if h : k < s.size then s[k].toNat else 256

theorem bt_in {s : ByteArray} {k : Nat} (h : k < s.size) : bt s k = s[k].toNat := by simp [bt, h]
theorem bt_out {s : ByteArray} {k : Nat} (h : s.size ≤ k) : bt s k = 256 := by unfold bt; rw [dif_neg (by omega)]
theorem bt_bytes (s : ByteArray) : Bytes (bt s) s.size := by
  constructor
  · intro k hk; rw [bt_in hk]; exact UInt8.toNat_lt _
  · intro k hk; exact bt_out hk

theorem ret_int {k : IntKind} {a b : Int} (h : a = b) : Ending.returned (.int k a) = .returned (.int k b) := by rw [h]
theorem nat_of_beq {a b : Nat} (h : ((a : Int) == (b : Int)) = true) : a = b := by
  have := of_decide_eq_true (p := (a : Int) = (b : Int)) (by simpa using h); omega
theorem nat_of_nbeq {a b : Nat} (h : ((a : Int) == (b : Int)) = false) : a ≠ b := by
  intro e; subst e; simp at h

set_option maxHeartbeats 400000 in
theorem step_calls (csi : Bool) (st c : Nat) (w : World) (hst : st ≤ 2) (hc : c < 256) :
    Calls Try.prog 31 #[.bool csi, .int .i64 st, .int .u8 c] w fun e w' => e = .returned (.int .i64 (autoStep csi st c : Nat)) ∧ w' = w := by
  have h4 : st = 0 ∨ st = 1 ∨ st = 2 := by omega
  rcases h4 with rfl | rfl | rfl <;> cases csi
  all_goals
    go_enter Try.func31, Try.ntmps31
    go_wp2
  all_goals
    go_ret
    refine ⟨ret_int ?_, rfl⟩
    simp only [autoStep, Bool.false_eq_true, if_false, if_true, true_and, true_or]
    repeat' split
    all_goals omega

theorem step_any (csi : Bool) (sti ci : Int) (w : World) (st c : Nat) (es : sti = st) (ec : ci = c) (hst : st ≤ 2) (hc : c < 256) :
    Calls Try.prog 31 #[.bool csi, .int .i64 sti, .int .u8 ci] w fun e w' => (∃ n : Nat, e = .returned (.int .i64 n) ∧ n = autoStep csi st c) ∧ w' = w := by
  subst es ec
  refine (step_calls csi st c w hst hc).mono ?_
  rintro e w' ⟨rfl, rfl⟩
  exact ⟨⟨_, rfl, rfl⟩, rfl⟩

theorem beq_two {a : Nat} (h : ((a : Int) == 7) = true ∨ ((a : Int) == 27) = true) : a = 7 ∨ a = 27 := by
  rcases h with h | h
  · exact .inl (nat_of_beq (b := 7) h)
  · exact .inr (nat_of_beq (b := 27) h)
theorem term_snoc {b : Nat → Nat} {t : Nat} (h : ∀ k, 2 ≤ k → k < t → b k ≠ 7 ∧ b k ≠ 27) (ht : b t ≠ 7 ∧ b t ≠ 27) : ∀ k, 2 ≤ k → k < t + 1 → b k ≠ 7 ∧ b k ≠ 27 := by
  intro k h1 h2
  rcases Nat.lt_or_ge k t with g | g
  · exact h k h1 g
  · have : k = t := by omega
    subst this; exact ht

set_option maxHeartbeats 400000 in
theorem term_calls (s : ByteArray) (w : World) (hs : s.size ≤ 1048576) (h2 : 2 ≤ s.size) :
    Calls Try.prog 30 #[.string s] w fun e w' => (∃ t : Nat, e = .returned (.int .i64 t) ∧ 2 ≤ t ∧ t ≤ s.size ∧ (∀ k, 2 ≤ k → k < t → bt s k ≠ 7 ∧ bt s k ≠ 27) ∧ (t < s.size → bt s t = 7 ∨ bt s t = 27)) ∧ w' = w := by
  go_enter Try.func30, Try.ntmps30
  go_wp2
  go_loop [3] (fun v => ∃ t : Nat, v = .int .i64 t ∧ 2 ≤ t ∧ t ≤ s.size ∧ (∀ k, 2 ≤ k → k < t → bt s k ≠ 7 ∧ bt s k ≠ 27)) (fun v => s.size - (intOf v).toNat)
  case atStart => exact ⟨2, rfl, by omega, by omega, fun k _ _ => by omega⟩
  case round =>
    obtain ⟨t, rfl, t1, t2, t3⟩ := hrel
    by_cases hlt : t < s.size
    · go_wp2
      · have g : ((s[t].toNat : Nat) : Int) = 7 := by assumption
        go_ret
        exact ⟨⟨t, rfl, t1, t2, t3, fun _ => .inl (by rw [bt_in hlt]; omega)⟩, rfl⟩
      · have g : ((s[t].toNat : Int) == 7) = true ∨ ((s[t].toNat : Int) == 27) = true := by assumption
        go_ret
        exact ⟨⟨t, rfl, t1, t2, t3, fun _ => by rw [bt_in hlt]; exact beq_two g⟩, rfl⟩
      · have g : ((s[t].toNat : Int) == 7) = false ∧ ((s[t].toNat : Int) == 27) = false := by assumption
        go_round
        case rel => exact ⟨t + 1, by go_num, by omega, by omega, term_snoc t3 (by rw [bt_in hlt]; exact ⟨nat_of_nbeq (b := 7) g.1, nat_of_nbeq (b := 27) g.2⟩)⟩
        case measure => simp [intOf]; omega
    · go_wp2
      go_ret
      exact ⟨⟨s.size, rfl, h2, Nat.le_refl _, fun k h1 h3 => t3 k h1 (by omega), fun h => by omega⟩, rfl⟩
end Go.Proofs.Qxb6600630a
