/-
  'zzBytes_FnAlikeModel', 'zzBytes_FnAlikeSettles': each answers some bool and turns nothing.
-/
import Derived.Test.Qxb6600630aRd
namespace Go.Proofs.Qxb6600630a
open Go.RowKit

set_option maxHeartbeats 1000000 in
theorem bytesM_calls (w : World) (x y : Bool) (t u : Int) (a : Option Addr) (n cap b off : Nat) (f : Nat → ByteArray) (h : Rd w 25 a n cap b off fun k => .string (f k)) (hf : ∀ k, k < n → (f k).size ≤ maxLen)
    (c : Option Addr) (m cap' b' off' : Nat) (g : Nat → ByteArray) (h' : Rd w 25 c m cap' b' off' fun k => .string (g k)) (hg : ∀ k, k < m → (g k).size ≤ maxLen)
    (a2 : Option Addr) (n2 cap2 : Nat) (h2 : n2 ≤ maxLen) (a4 : Option Addr) (n4 cap4 : Nat) (h4 : n4 ≤ maxLen) :
    Calls Try.prog 19 #[.bool x, .slice a n cap, .slice a2 n2 cap2, .int .i64 t, .bool y, .slice c m cap', .slice a4 n4 cap4, .int .i64 u] w fun e w' => (e = .returned (.bool false) ∨ e = .returned (.bool true)) ∧ w' = w := by
  have hn := h.small
  have hm := h'.small
  unfold maxLen at hn hm h2 h4
  go_enter Try.func19, Try.ntmps19
  go_wp2
  · go_ret
    exact ⟨.inl rfl, rfl⟩
  go_loop [17, 18] (fun v i => ∃ (k : Nat) (z : Int), i = .int .i64 k ∧ v = .int .i64 z ∧ k ≤ n ∧ 0 ≤ z ∧ z ≤ 1048576) (fun _ i => n - (intOf i).toNat)
  case atStart => exact ⟨0, n, rfl, rfl, by omega, by omega, by omega⟩
  case round =>
    obtain ⟨k, z, rfl, rfl, hk, z1, z2⟩ := hrel
    by_cases hlt : k < n
    · have hc := h.cell k hlt
      have hi := h.idx k hlt
      have hz := hf k hlt
      unfold maxLen at hz
      go_wp2
      · go_ret
        exact ⟨.inl rfl, rfl⟩
      · go_ret
        exact ⟨.inl rfl, rfl⟩
      · go_round
        case rel => exact ⟨k + 1, z + (f k).size, by go_num, rfl, by omega, by omega, by omega⟩
        case measure => simp [intOf]; omega
    · go_wp2
      all_goals first | (go_ret; exact ⟨.inl rfl, rfl⟩) | skip
      go_loop [17, 19] (fun v i => ∃ (k : Nat) (z : Int), i = .int .i64 k ∧ v = .int .i64 z ∧ k ≤ m ∧ 0 ≤ z ∧ z ≤ 1048576) (fun _ i => m - (intOf i).toNat)
      case atStart => exact ⟨0, _, rfl, rfl, by omega, by omega, by omega⟩
      case round =>
        obtain ⟨k, z, rfl, rfl, hk, z1, z2⟩ := hrel
        by_cases hlt : k < m
        · have hc := h'.cell k hlt
          have hi := h'.idx k hlt
          have hz := hg k hlt
          unfold maxLen at hz
          go_wp2
          · go_ret
            exact ⟨.inl rfl, rfl⟩
          · go_ret
            exact ⟨.inl rfl, rfl⟩
          · go_round
            case rel => exact ⟨k + 1, z + (g k).size, by go_num, rfl, by omega, by omega, by omega⟩
            case measure => simp [intOf]; omega
        · go_wp2
          all_goals first | (go_ret; exact ⟨.inl rfl, rfl⟩) | (go_ret; exact ⟨.inr rfl, rfl⟩)

set_option maxHeartbeats 1000000 in
theorem bytesS_calls (w : World) (x y : Bool) (t u : Int) (a : Option Addr) (n cap b off : Nat) (f : Nat → ByteArray) (h : Rd w 25 a n cap b off fun k => .string (f k)) (hf : ∀ k, k < n → (f k).size ≤ maxLen)
    (c : Option Addr) (m cap' b' off' : Nat) (g : Nat → ByteArray) (h' : Rd w 25 c m cap' b' off' fun k => .string (g k)) (hg : ∀ k, k < m → (g k).size ≤ maxLen)
    (a2 : Option Addr) (n2 cap2 : Nat) (h2 : n2 ≤ maxLen) (a4 : Option Addr) (n4 cap4 : Nat) (h4 : n4 ≤ maxLen) :
    Calls Try.prog 28 #[.bool x, .slice a n cap, .slice a2 n2 cap2, .int .i64 t, .bool y, .slice c m cap', .slice a4 n4 cap4, .int .i64 u] w fun e w' => (e = .returned (.bool false) ∨ e = .returned (.bool true)) ∧ w' = w := by
  have hn := h.small
  have hm := h'.small
  unfold maxLen at hn hm h2 h4
  go_enter Try.func28, Try.ntmps28
  go_wp2
  · go_ret
    exact ⟨.inl rfl, rfl⟩
  go_loop [17, 18] (fun v i => ∃ (k : Nat) (z : Int), i = .int .i64 k ∧ v = .int .i64 z ∧ k ≤ n ∧ 0 ≤ z ∧ z ≤ 1048576) (fun _ i => n - (intOf i).toNat)
  case atStart => exact ⟨0, n, rfl, rfl, by omega, by omega, by omega⟩
  case round =>
    obtain ⟨k, z, rfl, rfl, hk, z1, z2⟩ := hrel
    by_cases hlt : k < n
    · have hc := h.cell k hlt
      have hi := h.idx k hlt
      have hz := hf k hlt
      unfold maxLen at hz
      go_wp2
      · go_ret
        exact ⟨.inl rfl, rfl⟩
      · go_ret
        exact ⟨.inl rfl, rfl⟩
      · go_round
        case rel => exact ⟨k + 1, z + (f k).size, by go_num, rfl, by omega, by omega, by omega⟩
        case measure => simp [intOf]; omega
    · go_wp2
      all_goals first | (go_ret; exact ⟨.inl rfl, rfl⟩) | skip
      go_loop [17, 19] (fun v i => ∃ (k : Nat) (z : Int), i = .int .i64 k ∧ v = .int .i64 z ∧ k ≤ m ∧ 0 ≤ z ∧ z ≤ 1048576) (fun _ i => m - (intOf i).toNat)
      case atStart => exact ⟨0, _, rfl, rfl, by omega, by omega, by omega⟩
      case round =>
        obtain ⟨k, z, rfl, rfl, hk, z1, z2⟩ := hrel
        by_cases hlt : k < m
        · have hc := h'.cell k hlt
          have hi := h'.idx k hlt
          have hz := hg k hlt
          unfold maxLen at hz
          go_wp2
          · go_ret
            exact ⟨.inl rfl, rfl⟩
          · go_ret
            exact ⟨.inl rfl, rfl⟩
          · go_round
            case rel => exact ⟨k + 1, z + (g k).size, by go_num, rfl, by omega, by omega, by omega⟩
            case measure => simp [intOf]; omega
        · go_wp2
          all_goals first | (go_ret; exact ⟨.inl rfl, rfl⟩) | (go_ret; exact ⟨.inr rfl, rfl⟩)

end Go.Proofs.Qxb6600630a
