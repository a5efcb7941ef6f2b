/-
  'escapeLen', walked: it answers 'Esc.IsEsc'.
-/
import Derived.Test.Qxb6600630aEscModel2
namespace Go.Proofs.Qxb6600630a
open Go.RowKit
open Esc

set_option maxHeartbeats 400000 in
theorem esc_short (s : ByteArray) (w : World) (hs : s.size < 2) :
    Calls Try.prog 29 #[.string s] w fun e w' => (∃ n : Nat, e = .returned (.int .i64 n) ∧ IsEsc (bt s) s.size n) ∧ w' = w := by
  go_enter Try.func29, Try.ntmps29
  go_wp2
  go_ret
  exact ⟨⟨s.size, rfl, .inl ⟨hs, rfl⟩⟩, rfl⟩

set_option maxRecDepth 100000 in
set_option maxHeartbeats 2000000 in
theorem esc_ctl (s : ByteArray) (w : World) (hs : s.size ≤ 1048576) (h2 : 2 ≤ s.size) (hc : ctl s[1].toNat) :
    Calls Try.prog 29 #[.string s] w fun e w' => (∃ n : Nat, e = .returned (.int .i64 n) ∧ IsEsc (bt s) s.size n) ∧ w' = w := by
  have HC : Hid (ctl (bt s 1)) := by rw [bt_in (by omega)]; exact hc
  have fin : ∀ n, Ctl (bt s) s.size n → IsEsc (bt s) s.size n := fun n h => .inr (.inr (.inl ⟨h2, HC.out, h⟩))
  rcases hc with h | h | h | h | h
  all_goals
    go_enter Try.func29, Try.ntmps29
    go_wp2_with fail
    go_loop [3] (fun v => ∃ t : Nat, v = .int .i64 t ∧ 2 ≤ t ∧ t ≤ s.size ∧ (∀ k, 2 ≤ k → k < t → bt s k ≠ 7 ∧ bt s k ≠ 27)) (fun v => s.size - (intOf v).toNat)
    case atStart => exact ⟨2, rfl, by omega, by omega, fun k _ _ => by omega⟩
    case round =>
      obtain ⟨t, rfl, t1, t2, t3⟩ := hrel
      have T3 : Hid (∀ k, 2 ≤ k → k < t → bt s k ≠ 7 ∧ bt s k ≠ 27) := t3
      clear t3
      by_cases hlt : t < s.size
      · by_cases h7 : s[t].toNat = 7
        · have h7' : ((s[t].toNat : Int) == 7) = true := by rw [h7]; rfl
          have H7 : Hid (bt s t = 7) := by rw [bt_in hlt]; exact h7
          clear h7
          go_wp2_with fail
          go_ret
          exact ⟨⟨t + 1, rfl, fin _ ⟨t, t1, t2, T3.out, .inr (.inl ⟨hlt, H7.out, rfl⟩)⟩⟩, rfl⟩
        have h7' : ((s[t].toNat : Int) == 7) = false := by simp; omega
        by_cases h27 : s[t].toNat = 27
        · have h27' : ((s[t].toNat : Int) == 27) = true := by rw [h27]; rfl
          have H27 : Hid (bt s t = 27) := by rw [bt_in hlt]; exact h27
          clear h27 h7
          by_cases hn : t + 1 < s.size
          · by_cases h92 : s[t + 1].toNat = 92
            · have h92' : ((s[t + 1].toNat : Int) == 92) = true := by rw [h92]; rfl
              have H92 : Hid (bt s (t + 1) = 92) := by rw [bt_in hn]; exact h92
              clear h92
              go_wp2_with fail
              go_ret
              exact ⟨⟨t + 2, rfl, fin _ ⟨t, t1, t2, T3.out, .inr (.inr (.inl ⟨hlt, H27.out, H92.out, rfl⟩))⟩⟩, rfl⟩
            · have h92' : ((s[t + 1].toNat : Int) == 92) = false := by simp; omega
              have H92 : Hid (bt s (t + 1) ≠ 92) := by rw [bt_in hn]; exact h92
              clear h92
              go_wp2_with fail
              go_ret
              exact ⟨⟨t, rfl, fin _ ⟨t, t1, t2, T3.out, .inr (.inr (.inr ⟨hlt, H27.out, H92.out, rfl⟩))⟩⟩, rfl⟩
          · have H92 : Hid (bt s (t + 1) ≠ 92) := by
              show bt s (t + 1) ≠ 92
              rw [bt_out (by omega)]; omega
            go_wp2_with fail
            go_ret
            exact ⟨⟨t, rfl, fin _ ⟨t, t1, t2, T3.out, .inr (.inr (.inr ⟨hlt, H27.out, H92.out, rfl⟩))⟩⟩, rfl⟩
        · have h27' : ((s[t].toNat : Int) == 27) = false := by simp; omega
          have HN : Hid (bt s t ≠ 7 ∧ bt s t ≠ 27) := by rw [bt_in hlt]; exact ⟨h7, h27⟩
          clear h7 h27
          go_wp2_with fail
          go_round
          case rel => exact ⟨t + 1, by go_num, by omega, by omega, term_snoc T3.out HN.out⟩
          case measure => simp [intOf]; omega
      · go_wp2_with fail
        go_ret
        exact ⟨⟨s.size, ret_int (by omega), fin _ ⟨t, t1, t2, T3.out, .inl ⟨by omega, rfl⟩⟩⟩, rfl⟩

theorem int_snoc {b : Nat → Nat} {p m : Nat} (h : ∀ k, p ≤ k → k < m → int (b k)) (hm : int (b m)) : ∀ k, p ≤ k → k < m + 1 → int (b k) := by
  intro k h1 h2
  rcases Nat.lt_or_ge k m with g | g
  · exact h k h1 g
  · have : k = m := by omega
    subst this; exact hm
theorem par_snoc {b : Nat → Nat} {m : Nat} (h : ∀ k, 2 ≤ k → k < m → par (b k)) (hm : par (b m)) : ∀ k, 2 ≤ k → k < m + 1 → par (b k) := by
  intro k h1 h2
  rcases Nat.lt_or_ge k m with g | g
  · exact h k h1 g
  · have : k = m := by omega
    subst this; exact hm

set_option maxHeartbeats 2000000 in
theorem esc_esc (s : ByteArray) (w : World) (hs : s.size ≤ 1048576) (h2 : 2 ≤ s.size) (hc : s[1].toNat ≠ 91) (hk : ¬ ctl s[1].toNat) :
    Calls Try.prog 29 #[.string s] w fun e w' => (∃ n : Nat, e = .returned (.int .i64 n) ∧ IsEsc (bt s) s.size n) ∧ w' = w := by
  have HC : Hid (bt s 1 ≠ 91 ∧ ¬ ctl (bt s 1)) := by rw [bt_in (by omega)]; exact ⟨hc, hk⟩
  have fin : ∀ m, Tail (bt s) 1 m → IsEsc (bt s) s.size (last (bt s) 48 m) := fun m h => .inr (.inr (.inr ⟨h2, HC.out.1, HC.out.2, m, h, rfl⟩))
  have t1 : ((s[1].toNat : Int) == 91) = false := by simp; omega
  have t2 : ((s[1].toNat : Int) == 93) = false := by unfold ctl at hk; simp; omega
  have t3 : ((s[1].toNat : Int) == 80) = false := by unfold ctl at hk; simp; omega
  have t4 : ((s[1].toNat : Int) == 88) = false := by unfold ctl at hk; simp; omega
  have t5 : ((s[1].toNat : Int) == 94) = false := by unfold ctl at hk; simp; omega
  have t6 : ((s[1].toNat : Int) == 95) = false := by unfold ctl at hk; simp; omega
  clear hc hk
  go_enter Try.func29, Try.ntmps29
  go_wp2_with fail
  go_loop [3] (fun v => ∃ m : Nat, v = .int .i64 m ∧ 1 ≤ m ∧ m ≤ s.size ∧ (∀ k, 1 ≤ k → k < m → int (bt s k))) (fun v => s.size - (intOf v).toNat)
  case atStart => exact ⟨1, rfl, by omega, by omega, fun k _ _ => by omega⟩
  case round =>
    obtain ⟨m, rfl, m1, m2, m3⟩ := hrel
    have M3 : Hid (∀ k, 1 ≤ k → k < m → int (bt s k)) := m3
    clear m3
    by_cases hlt : m < s.size
    · have hb : Hid (bt s m = s[m].toNat) := bt_in hlt
      by_cases c1 : s[m].toNat < 32
      · go_wp2_with fail
        go_ret
        refine ⟨⟨m, ret_int rfl, ?_⟩, rfl⟩
        have := fin m ⟨m1, M3.out, by rw [hb.out]; unfold int; omega⟩
        rwa [last, if_neg (by rw [hb.out]; omega)] at this
      by_cases c2 : s[m].toNat ≤ 47
      · go_wp2_with fail
        go_round
        case rel => exact ⟨m + 1, by go_num, by omega, by omega, int_snoc M3.out (by rw [hb.out]; unfold int; omega)⟩
        case measure => simp [intOf]; omega
      by_cases c3 : s[m].toNat ≤ 126
      · go_wp2_with fail
        go_ret
        refine ⟨⟨m + 1, ret_int (by omega), ?_⟩, rfl⟩
        have := fin m ⟨m1, M3.out, by rw [hb.out]; unfold int; omega⟩
        rwa [last, if_pos (by rw [hb.out]; omega)] at this
      · go_wp2_with fail
        go_ret
        refine ⟨⟨m, ret_int rfl, ?_⟩, rfl⟩
        have := fin m ⟨m1, M3.out, by rw [hb.out]; unfold int; omega⟩
        rwa [last, if_neg (by rw [hb.out]; omega)] at this
    · have hb : Hid (bt s m = 256) := bt_out (by omega)
      go_wp2_with fail
      go_ret
      refine ⟨⟨m, ret_int rfl, ?_⟩, rfl⟩
      have := fin m ⟨m1, M3.out, by rw [hb.out]; unfold int; omega⟩
      rwa [last, if_neg (by rw [hb.out]; omega)] at this

set_option maxHeartbeats 4000000 in
theorem esc_csi (s : ByteArray) (w : World) (hs : s.size ≤ 1048576) (h2 : 2 ≤ s.size) (hc : s[1].toNat = 91) :
    Calls Try.prog 29 #[.string s] w fun e w' => (∃ n : Nat, e = .returned (.int .i64 n) ∧ IsEsc (bt s) s.size n) ∧ w' = w := by
  have HC : Hid (bt s 1 = 91) := by rw [bt_in (by omega)]; exact hc
  have fin : ∀ p m, 2 ≤ p → (∀ k, 2 ≤ k → k < p → par (bt s k)) → ¬ par (bt s p) → Tail (bt s) p m → IsEsc (bt s) s.size (last (bt s) 64 m) := fun p m h1 h3 h4 h => .inr (.inl ⟨h2, HC.out, p, h1, h3, h4, m, h, rfl⟩)
  go_enter Try.func29, Try.ntmps29
  go_wp2_with fail
  go_loop [3] (fun v => ∃ p : Nat, v = .int .i64 p ∧ 2 ≤ p ∧ p ≤ s.size ∧ (∀ k, 2 ≤ k → k < p → par (bt s k))) (fun v => s.size - (intOf v).toNat)
  case atStart => exact ⟨2, rfl, by omega, by omega, fun k _ _ => by omega⟩
  case round =>
    obtain ⟨p, rfl, p1, p2, p3⟩ := hrel
    have P3 : Hid (∀ k, 2 ≤ k → k < p → par (bt s k)) := p3
    clear p3
    have hcases : (∃ h : p < s.size, 48 ≤ s[p].toNat ∧ s[p].toNat ≤ 63) ∨ (s.size ≤ p ∧ Hid (¬ par (bt s p))) ∨ (∃ h : p < s.size, s[p].toNat < 48 ∧ Hid (¬ par (bt s p))) ∨ (∃ h : p < s.size, 63 < s[p].toNat ∧ Hid (¬ par (bt s p))) := by
      by_cases hlt : p < s.size
      · by_cases a : s[p].toNat < 48
        · exact .inr (.inr (.inl ⟨hlt, a, by show ¬ par (bt s p); rw [bt_in hlt]; unfold par; omega⟩))
        · by_cases a' : s[p].toNat ≤ 63
          · exact .inl ⟨hlt, by omega, a'⟩
          · exact .inr (.inr (.inr ⟨hlt, by omega, by show ¬ par (bt s p); rw [bt_in hlt]; unfold par; omega⟩))
      · exact .inr (.inl ⟨by omega, by show ¬ par (bt s p); rw [bt_out (by omega)]; unfold par; omega⟩)
    rcases hcases with ⟨hlt, a, b⟩ | ⟨hlt, HP⟩ | ⟨hlt, a, HP⟩ | ⟨hlt, a, HP⟩
    · go_wp2_with fail
      go_round
      case rel => exact ⟨p + 1, by go_num, by omega, by omega, par_snoc P3.out (by rw [bt_in hlt]; exact ⟨a, b⟩)⟩
      case measure => simp [intOf]; omega
    · go_wp2_with fail
      go_loop [3] (fun v => ∃ m : Nat, v = .int .i64 m ∧ p ≤ m ∧ m ≤ s.size ∧ (∀ k, p ≤ k → k < m → int (bt s k))) (fun v => s.size - (intOf v).toNat)
      case atStart => exact ⟨p, rfl, by omega, by omega, fun k _ _ => by omega⟩
      case round =>
        obtain ⟨m, rfl, m1, m2, m3⟩ := hrel
        have M3 : Hid (∀ k, p ≤ k → k < m → int (bt s k)) := m3
        clear m3
        have hlm : ¬ m < s.size := by omega
        have hb : Hid (bt s m = 256) := bt_out (by omega)
        go_wp2_with fail
        go_ret
        refine ⟨⟨m, ret_int rfl, ?_⟩, rfl⟩
        have := fin p m p1 P3.out HP.out ⟨m1, M3.out, by rw [hb.out]; unfold int; omega⟩
        rwa [last, if_neg (by rw [hb.out]; omega)] at this
    all_goals
      go_wp2_with fail
      go_loop [3] (fun v => ∃ m : Nat, v = .int .i64 m ∧ p ≤ m ∧ m ≤ s.size ∧ (∀ k, p ≤ k → k < m → int (bt s k))) (fun v => s.size - (intOf v).toNat)
      case atStart => exact ⟨p, rfl, by omega, by omega, fun k _ _ => by omega⟩
      case round =>
        obtain ⟨m, rfl, m1, m2, m3⟩ := hrel
        have M3 : Hid (∀ k, p ≤ k → k < m → int (bt s k)) := m3
        clear m3
        by_cases hlm : m < s.size
        · have hb : Hid (bt s m = s[m].toNat) := bt_in hlm
          by_cases c1 : s[m].toNat < 32
          · go_wp2_with fail
            go_ret
            refine ⟨⟨m, ret_int rfl, ?_⟩, rfl⟩
            have := fin p m p1 P3.out HP.out ⟨m1, M3.out, by rw [hb.out]; unfold int; omega⟩
            rwa [last, if_neg (by rw [hb.out]; omega)] at this
          by_cases c2 : s[m].toNat ≤ 47
          · go_wp2_with fail
            go_round
            case rel => exact ⟨m + 1, by go_num, by omega, by omega, int_snoc M3.out (by rw [hb.out]; unfold int; omega)⟩
            case measure => simp [intOf]; omega
          by_cases c4 : s[m].toNat < 64
          · go_wp2_with fail
            go_ret
            refine ⟨⟨m, ret_int rfl, ?_⟩, rfl⟩
            have := fin p m p1 P3.out HP.out ⟨m1, M3.out, by rw [hb.out]; unfold int; omega⟩
            rwa [last, if_neg (by rw [hb.out]; omega)] at this
          by_cases c3 : s[m].toNat ≤ 126
          · go_wp2_with fail
            go_ret
            refine ⟨⟨m + 1, ret_int (by omega), ?_⟩, rfl⟩
            have := fin p m p1 P3.out HP.out ⟨m1, M3.out, by rw [hb.out]; unfold int; omega⟩
            rwa [last, if_pos (by rw [hb.out]; omega)] at this
          · go_wp2_with fail
            go_ret
            refine ⟨⟨m, ret_int rfl, ?_⟩, rfl⟩
            have := fin p m p1 P3.out HP.out ⟨m1, M3.out, by rw [hb.out]; unfold int; omega⟩
            rwa [last, if_neg (by rw [hb.out]; omega)] at this
        · have hb : Hid (bt s m = 256) := bt_out (by omega)
          go_wp2_with fail
          go_ret
          refine ⟨⟨m, ret_int rfl, ?_⟩, rfl⟩
          have := fin p m p1 P3.out HP.out ⟨m1, M3.out, by rw [hb.out]; unfold int; omega⟩
          rwa [last, if_neg (by rw [hb.out]; omega)] at this

theorem esc_calls (s : ByteArray) (w : World) (hs : s.size ≤ 1048576) :
    Calls Try.prog 29 #[.string s] w fun e w' => (∃ n : Nat, e = .returned (.int .i64 n) ∧ IsEsc (bt s) s.size n) ∧ w' = w := by
  by_cases h2 : s.size < 2
  · exact esc_short s w h2
  · have h2' : 2 ≤ s.size := by omega
    by_cases hc : s[1].toNat = 91
    · exact esc_csi s w hs h2' hc
    · by_cases hk : ctl s[1].toNat
      · exact esc_ctl s w hs h2' hk
      · exact esc_esc s w hs h2' hc hk
end Go.Proofs.Qxb6600630a
