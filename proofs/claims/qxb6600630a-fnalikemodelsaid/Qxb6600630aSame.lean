/-
  'zzSameStrings_nb1', 'zzSameBools_nb1', 'zzViewIs_nb1' at slices that read the same.
-/
import Derived.Test.Qxb6600630aRd
namespace Go.Proofs.Qxb6600630a
open Go.RowKit

theorem Rd.draws {w : World} {t : TypeId} {a : Option Addr} {n cap b off : Nat} {f : Nat → Value} (h : Rd w t a n cap b off f) (d : Nat) : Rd (w.drewN d) t a n cap b off f :=
  ⟨h.small, h.nil, h.idx, h.cell, h.old⟩

set_option maxHeartbeats 1000000 in
theorem sameStrs_calls (w : World) (a : Option Addr) (n cap b off : Nat) (f : Nat → ByteArray) (h : Rd w 25 a n cap b off fun k => .string (f k))
    (c : Option Addr) (cap' b' off' : Nat) (g : Nat → ByteArray) (h' : Rd w 25 c n cap' b' off' fun k => .string (g k)) (e : ∀ k, k < n → f k = g k) :
    Calls Try.prog 17 #[.slice a n cap, .slice c n cap'] w fun e w' => e = .returned (.bool true) ∧ ∃ d, w' = w.drewN d := by
  have hn := h.small
  unfold maxLen at hn
  go_enter Try.func17, Try.ntmps17
  go_wp2
  go_loopw [5] (fun i wr => ∃ k d : Nat, i = .int .i64 k ∧ k ≤ n ∧ wr = w.drewN d) (fun i _ => n - (intOf i).toNat)
  case atStart => exact ⟨0, 0, rfl, by omega, rfl⟩
  case round =>
    obtain ⟨k, d, rfl, hk, rfl⟩ := hrel
    by_cases hlt : k < n
    · have hc := h.cell k hlt
      have hi := h.idx k hlt
      have hc' := h'.cell k hlt
      rw [← e k hlt] at hc'
      have hi' := h'.idx k hlt
      go_wp2
      go_quiet (fail)
      go_wp2
      go_roundw
      case rel => exact ⟨k + 1, _, by go_num, by omega, rfl⟩
      case measure => simp [intOf]; omega
    · go_wp2
      go_ret
      exact ⟨rfl, d, rfl⟩

set_option maxHeartbeats 1000000 in
theorem sameBools_calls (w : World) (a : Option Addr) (n cap b off : Nat) (f : Nat → Bool) (h : Rd w 29 a n cap b off fun k => .bool (f k))
    (c : Option Addr) (cap' b' off' : Nat) (g : Nat → Bool) (h' : Rd w 29 c n cap' b' off' fun k => .bool (g k)) (e : ∀ k, k < n → f k = g k) :
    Calls Try.prog 18 #[.slice a n cap, .slice c n cap'] w fun e w' => e = .returned (.bool true) ∧ ∃ d, w' = w.drewN d := by
  have hn := h.small
  unfold maxLen at hn
  go_enter Try.func18, Try.ntmps18
  go_wp2
  go_loopw [5] (fun i wr => ∃ k d : Nat, i = .int .i64 k ∧ k ≤ n ∧ wr = w.drewN d) (fun i _ => n - (intOf i).toNat)
  case atStart => exact ⟨0, 0, rfl, by omega, rfl⟩
  case round =>
    obtain ⟨k, d, rfl, hk, rfl⟩ := hrel
    by_cases hlt : k < n
    · have hc := h.cell k hlt
      have hi := h.idx k hlt
      have hc' := h'.cell k hlt
      rw [← e k hlt] at hc'
      have hi' := h'.idx k hlt
      go_wp2
      go_quiet (fail)
      go_wp2
      go_roundw
      case rel => exact ⟨k + 1, _, by go_num, by omega, rfl⟩
      case measure => simp [intOf]; omega
    · go_wp2
      go_ret
      exact ⟨rfl, d, rfl⟩

set_option maxHeartbeats 1000000 in
theorem viewIs_nil (w : World) (v1 v2 v3 v4 : Value) (t u : Int) :
    Calls Try.prog 24 #[.bool true, v1, v2, .int .i64 t, .bool true, v3, v4, .int .i64 u] w fun e w' => e = .returned (.bool true) ∧ w' = w := by
  go_enter Try.func24, Try.ntmps24
  go_wp2
  go_ret
  exact ⟨rfl, rfl⟩

set_option maxHeartbeats 1000000 in
theorem viewIs_same (w : World) (t : Int) (a : Option Addr) (n cap b off : Nat) (f : Nat → ByteArray) (h : Rd w 25 a n cap b off fun k => .string (f k))
    (a2 : Option Addr) (cap2 b2 off2 : Nat) (p : Nat → Bool) (h2 : Rd w 29 a2 n cap2 b2 off2 fun k => .bool (p k))
    (a3 : Option Addr) (cap3 b3 off3 : Nat) (g : Nat → ByteArray) (h3 : Rd w 25 a3 n cap3 b3 off3 fun k => .string (g k))
    (a4 : Option Addr) (cap4 b4 off4 : Nat) (q : Nat → Bool) (h4 : Rd w 29 a4 n cap4 b4 off4 fun k => .bool (q k))
    (e1 : ∀ k, k < n → f k = g k) (e2 : ∀ k, k < n → p k = q k) :
    Calls Try.prog 24 #[.bool false, .slice a n cap, .slice a2 n cap2, .int .i64 t, .bool false, .slice a3 n cap3, .slice a4 n cap4, .int .i64 t] w fun e w' => e = .returned (.bool true) ∧ ∃ d, w' = w.drewN d := by
  go_enter Try.func24, Try.ntmps24
  go_wp2_with fail
  refine (sameStrs_calls w a n cap b off f h a3 cap3 b3 off3 g h3 e1).mono ?_
  rintro e w1 ⟨rfl, d1, rfl⟩
  go_wp2_with fail
  refine (sameBools_calls (w.drewN d1) a2 n cap2 b2 off2 p (h2.draws d1) a4 cap4 b4 off4 q (h4.draws d1) e2).mono ?_
  rintro e w2 ⟨rfl, d2, rfl⟩
  go_wp2_with fail
  go_ret
  exact ⟨rfl, _, rfl⟩
end Go.Proofs.Qxb6600630a
