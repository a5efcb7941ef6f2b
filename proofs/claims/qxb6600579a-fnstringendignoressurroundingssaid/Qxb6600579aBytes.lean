/-
  The bytes of a Go string as a plain function, and the two small helpers of the law's model walked.
-/
import Derived.Test.Qxb6600579aProg
import Derived.Test.Qxb6600579aPlain
import Derived.WalkKit
import Derived.WalkSpells
import Derived.Outline
namespace Go.Proofs.Qxb6600579a
open Go.RowKit
open Plain

/-- the k-th byte as a number; 256 beyond the end -/
def bt (s : ByteArray) (k : Nat) : Nat := if h : k < s.size then s[k].toNat else 256

theorem bt_in {s : ByteArray} {k : Nat} (h : k < s.size) : bt s k = s[k].toNat := by simp [bt, h]
theorem bt_out {s : ByteArray} {k : Nat} (h : s.size ≤ k) : bt s k = 256 := by unfold bt; rw [dif_neg (by omega)]
theorem bt_bytes (s : ByteArray) : Bytes (bt s) s.size := by
  constructor
  · intro k hk; rw [bt_in hk]; exact UInt8.toNat_lt _
  · intro k hk; exact bt_out hk

theorem nat_of_beq {a b : Nat} (h : ((a : Int) == (b : Int)) = true) : a = b := by
  have := of_decide_eq_true (p := (a : Int) = (b : Int)) (by simpa using h); omega
theorem nat_of_nbeq {a b : Nat} (h : ((a : Int) == (b : Int)) = false) : a ≠ b := by
  intro e; subst e; simp at h

theorem run_snoc {b : Nat → Nat} {j q n : Nat} (h : Run b j q n) (hq : b (j + n) = q) : Run b j q (n + 1) := by
  intro t ht
  rcases Nat.lt_or_ge t n with g | g
  · exact h t g
  · have : t = n := by omega
    subst this; exact hq

set_option maxHeartbeats 400000 in
theorem runOf_calls (s : ByteArray) (j lim : Nat) (q : Nat) (w : World) (hs : s.size ≤ 1048576) (hj : j ≤ 2000000) (hl : lim ≤ 5) (hq : q < 256) :
    Calls Try.prog 18 #[.string s, .int .i64 j, .int .u8 q, .int .i64 lim] w fun e w' => (∃ n : Nat, e = .returned (.int .i64 n) ∧ n ≤ lim ∧ Run (bt s) j q n ∧ (n < lim → bt s (j + n) ≠ q)) ∧ w' = w := by
  go_enter Try.func18, Try.ntmps18
  go_wp2
  go_loop [9] (fun i => ∃ n : Nat, n ≤ lim ∧ i = .int .i64 n ∧ Run (bt s) j q n) (fun i => lim - (intOf i).toNat)
  case atStart => exact ⟨0, Nat.zero_le _, rfl, fun t ht => by omega⟩
  case round =>
    obtain ⟨n, hn, rfl, hrun⟩ := hrel
    go_wp2
    · have h1 : ((j : Int) + (n : Int)) < (s.size : Int) := by assumption
      have h2 : n < lim := by assumption
      have h3 : ((s[j + n].toNat : Int) == (q : Int)) = true := by assumption
      go_round
      case rel => exact ⟨n + 1, by omega, by go_num, run_snoc hrun (by rw [bt_in (by omega)]; exact nat_of_beq h3)⟩
      case measure => simp [intOf]; omega
    · have h1 : ((j : Int) + (n : Int)) < (s.size : Int) := by assumption
      have h3 : ((s[j + n].toNat : Int) == (q : Int)) = false := by assumption
      go_ret
      exact ⟨⟨n, rfl, hn, hrun, fun _ => by rw [bt_in (by omega)]; exact nat_of_nbeq h3⟩, rfl⟩
    · go_ret
      exact ⟨⟨n, rfl, hn, hrun, fun h => absurd h (by assumption)⟩, rfl⟩
    · have h1 : (s.size : Int) ≤ (j : Int) + (n : Int) := by assumption
      go_ret
      exact ⟨⟨n, rfl, hn, hrun, fun _ => by rw [bt_out (by omega)]; omega⟩, rfl⟩

theorem bs_peel {b : Nat → Nat} {st j : Nat} : ∀ n, n ≤ j → (∀ t, t < n → st + t + 1 ≤ j ∧ b (j - 1 - t) = 92) → bs b st j = n + bs b st (j - n)
  | 0, _, _ => by simp
  | n + 1, hn, h => by
    have ih := bs_peel (b := b) (st := st) n (by omega) (fun t ht => h t (by omega))
    have h1 := h n (by omega)
    obtain ⟨m, hm⟩ : ∃ m, j - n = m + 1 := ⟨j - n - 1, by omega⟩
    rw [ih, hm]
    have e1 : j - 1 - n = m := by omega
    have e2 : j - (n + 1) = m := by omega
    rw [e1] at h1
    rw [e2, bs, if_pos ⟨by omega, h1.2⟩]
    omega

theorem bs_stop {b : Nat → Nat} {st m : Nat} (h : ¬ (st + 1 ≤ m ∧ b (m - 1) = 92)) : bs b st m = 0 := by
  cases m with
  | zero => rfl
  | succ m =>
    simp only [Nat.add_sub_cancel] at h
    rw [bs, if_neg (by omega)]

theorem snoc92 {b : Nat → Nat} {st j n : Nat} (hn : st + n + 1 ≤ j) (h : ∀ t, t < n → st + t + 1 ≤ j ∧ b (j - 1 - t) = 92) (hb : b (j - 1 - n) = 92) :
    ∀ t, t < n + 1 → st + t + 1 ≤ j ∧ b (j - 1 - t) = 92 := by
  intro t ht
  rcases Nat.lt_or_ge t n with g | g
  · exact h t g
  · have : t = n := by omega
    subst this; exact ⟨hn, hb⟩

theorem bs_ret {b : Nat → Nat} {st j n : Nat} (hn : st + n ≤ j) (h : ∀ t, t < n → st + t + 1 ≤ j ∧ b (j - 1 - t) = 92) (hb : ¬ (st + 1 ≤ j - n ∧ b (j - n - 1) = 92)) :
    Ending.returned (.int .i64 (n : Int)) = .returned (.int .i64 (bs b st j : Nat)) := by
  rw [bs_peel n (by omega) h, bs_stop hb, Nat.add_zero]

set_option maxHeartbeats 400000 in
theorem before_calls (s : ByteArray) (st j : Nat) (w : World) (hs : s.size ≤ 1048576) (hj : j ≤ s.size) (hst : st ≤ j) :
    Calls Try.prog 19 #[.string s, .int .i64 st, .int .i64 j] w fun e w' => e = .returned (.int .i64 (bs (bt s) st j : Nat)) ∧ w' = w := by
  go_enter Try.func19, Try.ntmps19
  go_wp2
  go_loop [7] (fun i => ∃ n : Nat, st + n ≤ j ∧ i = .int .i64 n ∧ ∀ t, t < n → st + t + 1 ≤ j ∧ bt s (j - 1 - t) = 92) (fun i => j - (intOf i).toNat)
  case atStart => exact ⟨0, by omega, rfl, fun t ht => by omega⟩
  case round =>
    obtain ⟨n, hn, rfl, hrun⟩ := hrel
    go_wp2
    · have h1 : (st : Int) ≤ (j : Int) - 1 - (n : Int) := by assumption
      have h3 : ((s[j - 1 - n].toNat : Int) == 92) = true := by assumption
      go_round
      case rel => exact ⟨n + 1, by omega, by go_num, snoc92 (by omega) hrun (by rw [bt_in (by omega)]; exact nat_of_beq (b := 92) h3)⟩
      case measure => simp [intOf]; omega
    · have h1 : (st : Int) ≤ (j : Int) - 1 - (n : Int) := by assumption
      have h3 : ((s[j - 1 - n].toNat : Int) == 92) = false := by assumption
      go_ret
      exact ⟨bs_ret hn hrun (fun h => by have e : j - n - 1 = j - 1 - n := by omega
                                         rw [e, bt_in (by omega)] at h; exact nat_of_nbeq (b := 92) h3 h.2), rfl⟩
    · have h1 : (j : Int) - 1 - (n : Int) < (st : Int) := by assumption
      go_ret
      exact ⟨bs_ret hn hrun (fun h => by omega), rfl⟩
end Go.Proofs.Qxb6600579a
