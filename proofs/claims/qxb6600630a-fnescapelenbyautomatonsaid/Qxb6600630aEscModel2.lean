/-
  The law's automaton model of 'escapeLen', walked: 'zzEscModel_nb1' answers 'Esc.IsEsc'.
-/
import Derived.Test.Qxb6600630aEscModel
namespace Go.Proofs.Qxb6600630a
open Go.RowKit
open Esc

set_option maxHeartbeats 400000 in
theorem model_short (s : ByteArray) (w : World) (hs : s.size < 2) :
    Calls Try.prog 11 #[.string s] w fun e w' => (∃ n : Nat, e = .returned (.int .i64 n) ∧ IsEsc (bt s) s.size n) ∧ w' = w := by
  go_enter Try.func11, Try.ntmps11
  go_wp2
  go_ret
  exact ⟨⟨s.size, rfl, .inl ⟨hs, rfl⟩⟩, rfl⟩

set_option maxHeartbeats 1000000 in
theorem model_ctl (s : ByteArray) (w : World) (hs : s.size ≤ 1048576) (h2 : 2 ≤ s.size) (hc : ctl s[1].toNat) :
    Calls Try.prog 11 #[.string s] w fun e w' => (∃ n : Nat, e = .returned (.int .i64 n) ∧ IsEsc (bt s) s.size n) ∧ w' = w := by
  have HC : Hid (ctl (bt s 1)) := by rw [bt_in (by omega)]; exact hc
  have fin : ∀ n, Ctl (bt s) s.size n → IsEsc (bt s) s.size n := fun n h => .inr (.inr (.inl ⟨h2, HC.out, h⟩))
  rcases hc with h | h | h | h | h
  all_goals
    go_enter Try.func11, Try.ntmps11
    go_wp2_with fail
    refine (term_calls s _ hs h2).mono ?_
    rintro e w' ⟨⟨t, rfl, t1, t2, t3, t4⟩, rfl⟩
    have T3 : Hid (∀ k, 2 ≤ k → k < t → bt s k ≠ 7 ∧ bt s k ≠ 27) := t3
    have T4 : Hid (t < s.size → bt s t = 7 ∨ bt s t = 27) := t4
    clear t3 t4
    by_cases hte : t = s.size
    · have hte' : ((t : Int) == (s.size : Int)) = true := by simp; omega
      have HT : Hid (t = s.size) := hte
      clear hte
      go_wp2_with fail
      go_ret
      exact ⟨⟨s.size, rfl, fin _ ⟨t, t1, t2, T3.out, .inl ⟨HT.out, rfl⟩⟩⟩, rfl⟩
    have hlt : t < s.size := by omega
    have hte' : ((t : Int) == (s.size : Int)) = false := by simp; omega
    by_cases h7 : s[t].toNat = 7
    · have h7' : ((s[t].toNat : Int) == 7) = true := by rw [h7]; rfl
      have H7 : Hid (bt s t = 7) := by rw [bt_in hlt]; exact h7
      clear h7
      go_wp2_with fail
      go_ret
      exact ⟨⟨t + 1, rfl, fin _ ⟨t, t1, t2, T3.out, .inr (.inl ⟨hlt, H7.out, rfl⟩)⟩⟩, rfl⟩
    have h7' : ((s[t].toNat : Int) == 7) = false := by simp; omega
    have H27 : Hid (bt s t = 27) := by
      rcases T4.out hlt with g | g
      · rw [bt_in hlt] at g; exact absurd g h7
      · exact g
    clear h7
    by_cases hn : t + 1 < s.size
    · by_cases h92 : s[t + 1].toNat = 92
      · have h92' : ((s[t + 1].toNat : Int) == 92) = true := by rw [h92]; rfl
        have H92 : Hid (bt s (t + 1) = 92) := by rw [bt_in hn]; exact h92
        clear h92
        go_wp2_with fail
        go_ret
        exact ⟨⟨t + 2, rfl, fin _ ⟨t, t1, t2, T3.out, .inr (.inr (.inl ⟨hlt, H27.out, H92.out, rfl⟩))⟩⟩, rfl⟩
      · have h92' : ((s[t + 1].toNat : Int) == 92) = false := by simp; omega
        have H92 : Hid (bt s (t + 1) ≠ 92) := by rw [bt_in hn]; exact h92
        clear h92
        go_wp2_with fail
        go_ret
        exact ⟨⟨t, rfl, fin _ ⟨t, t1, t2, T3.out, .inr (.inr (.inr ⟨hlt, H27.out, H92.out, rfl⟩))⟩⟩, rfl⟩
    · have H92 : Hid (bt s (t + 1) ≠ 92) := by
        show bt s (t + 1) ≠ 92
        rw [bt_out (by omega)]; omega
      go_wp2_with fail
      go_ret
      exact ⟨⟨t, rfl, fin _ ⟨t, t1, t2, T3.out, .inr (.inr (.inr ⟨hlt, H27.out, H92.out, rfl⟩))⟩⟩, rfl⟩

theorem loC : (true = true → 64 = 64 ∧ 2 = 2) ∧ (true = false → 64 = 48) := ⟨fun _ => ⟨rfl, rfl⟩, fun h => by cases h⟩
theorem loE : (false = true → 48 = 64 ∧ 1 = 2) ∧ (false = false → 48 = 48) := ⟨(fun h => by cases h), fun _ => rfl⟩
theorem auto_state {b : Nat → Nat} {csi : Bool} {lo start st j : Nat} (h : Auto b csi lo start st j) : st ≤ 2 := by
  obtain ⟨_, h | h | h⟩ := h
  · omega
  · omega
  · omega
theorem step_le (csi : Bool) (st c : Nat) : autoStep csi st c ≤ 3 := by
  unfold autoStep; repeat' split
  all_goals omega

set_option maxHeartbeats 1000000 in
theorem model_csi (s : ByteArray) (w : World) (hs : s.size ≤ 1048576) (h2 : 2 ≤ s.size) (hc : s[1].toNat = 91) :
    Calls Try.prog 11 #[.string s] w fun e w' => (∃ n : Nat, e = .returned (.int .i64 n) ∧ IsEsc (bt s) s.size n) ∧ w' = w := by
  have HC : Hid (bt s 1 = 91) := by rw [bt_in (by omega)]; exact hc
  have fin : ∀ n, Csi (bt s) n → IsEsc (bt s) s.size n := fun n h => .inr (.inl ⟨h2, HC.out, h⟩)
  go_enter Try.func11, Try.ntmps11
  go_wp2_with fail
  go_loop [7, 8, 9] (fun st best v => ∃ (j q : Nat), v = .int .i64 j ∧ best = .int .i64 j ∧ st = .int .i64 q ∧ j ≤ s.size ∧ Auto (bt s) true 64 2 q j) (fun _ _ v => s.size - (intOf v).toNat)
  case atStart => exact ⟨2, 0, rfl, rfl, rfl, by omega, auto_start_csi _⟩
  case round =>
    obtain ⟨j, q, rfl, rfl, rfl, hj, hA⟩ := hrel
    have hq := auto_state hA
    have HA : Hid (Auto (bt s) true 64 2 q j) := hA
    clear hA
    by_cases hlt : j < s.size
    · go_wp2_with fail
      refine (step_any true _ _ _ q s[j].toNat rfl rfl hq (UInt8.toNat_lt _)).mono ?_
      rintro e w' ⟨⟨r, rfl, hr⟩, rfl⟩
      have hr3 : r ≤ 3 := by rw [hr]; exact step_le _ _ _
      have HR : Hid (r = autoStep true q (bt s j)) := by rw [bt_in hlt]; exact hr
      clear hr
      by_cases h3 : r = 3
      · have h3' : ((r : Int) == 3) = true := by simp; omega
        have H3 : Hid (r = 3) := h3
        clear h3
        go_wp2_with fail
        go_ret
        exact ⟨⟨j, rfl, fin _ (goal_csi (auto_out loC HA.out (.inl (by rw [← HR.out]; exact H3.out))))⟩, rfl⟩
      · have h3' : ((r : Int) == 3) = false := by simp; omega
        have H3 : Hid (r ≠ 3) := h3
        clear h3
        go_wp2_with fail
        go_round
        case rel => exact ⟨j + 1, r, by go_num, by go_num, rfl, by omega, HR.out.symm ▸ auto_next loC HA.out (by rw [← HR.out]; exact H3.out)⟩
        case measure => simp [intOf]; omega
    · go_wp2_with fail
      go_ret
      exact ⟨⟨j, rfl, fin _ (goal_csi (auto_out loC HA.out (.inr (by rw [bt_out (by omega)]; omega))))⟩, rfl⟩

set_option maxHeartbeats 1000000 in
theorem model_esc (s : ByteArray) (w : World) (hs : s.size ≤ 1048576) (h2 : 2 ≤ s.size) (hc : s[1].toNat ≠ 91) (hk : ¬ ctl s[1].toNat) :
    Calls Try.prog 11 #[.string s] w fun e w' => (∃ n : Nat, e = .returned (.int .i64 n) ∧ IsEsc (bt s) s.size n) ∧ w' = w := by
  have HC : Hid (bt s 1 ≠ 91 ∧ ¬ ctl (bt s 1)) := by rw [bt_in (by omega)]; exact ⟨hc, hk⟩
  have fin : ∀ n, Inter (bt s) 48 1 n → IsEsc (bt s) s.size n := fun n h => .inr (.inr (.inr ⟨h2, HC.out.1, HC.out.2, h⟩))
  have t1 : ((s[1].toNat : Int) == 91) = false := by simp; omega
  have t2 : ((s[1].toNat : Int) == 93) = false := by unfold ctl at hk; simp; omega
  have t3 : ((s[1].toNat : Int) == 80) = false := by unfold ctl at hk; simp; omega
  have t4 : ((s[1].toNat : Int) == 88) = false := by unfold ctl at hk; simp; omega
  have t5 : ((s[1].toNat : Int) == 94) = false := by unfold ctl at hk; simp; omega
  have t6 : ((s[1].toNat : Int) == 95) = false := by unfold ctl at hk; simp; omega
  clear hc hk
  go_enter Try.func11, Try.ntmps11
  go_wp2_with fail
  go_loop [7, 8, 9] (fun st best v => ∃ (j q : Nat), v = .int .i64 j ∧ best = .int .i64 j ∧ st = .int .i64 q ∧ j ≤ s.size ∧ Auto (bt s) false 48 1 q j) (fun _ _ v => s.size - (intOf v).toNat)
  case atStart => exact ⟨1, 1, rfl, rfl, rfl, by omega, auto_start_esc _⟩
  case round =>
    obtain ⟨j, q, rfl, rfl, rfl, hj, hA⟩ := hrel
    have hq := auto_state hA
    have HA : Hid (Auto (bt s) false 48 1 q j) := hA
    clear hA
    by_cases hlt : j < s.size
    · go_wp2_with fail
      refine (step_any false _ _ _ q s[j].toNat rfl rfl hq (UInt8.toNat_lt _)).mono ?_
      rintro e w' ⟨⟨r, rfl, hr⟩, rfl⟩
      have hr3 : r ≤ 3 := by rw [hr]; exact step_le _ _ _
      have HR : Hid (r = autoStep false q (bt s j)) := by rw [bt_in hlt]; exact hr
      clear hr
      by_cases h3 : r = 3
      · have h3' : ((r : Int) == 3) = true := by simp; omega
        have H3 : Hid (r = 3) := h3
        clear h3
        go_wp2_with fail
        go_ret
        exact ⟨⟨j, rfl, fin _ (goal_esc (auto_out loE HA.out (.inl (by rw [← HR.out]; exact H3.out))))⟩, rfl⟩
      · have h3' : ((r : Int) == 3) = false := by simp; omega
        have H3 : Hid (r ≠ 3) := h3
        clear h3
        go_wp2_with fail
        go_round
        case rel => exact ⟨j + 1, r, by go_num, by go_num, rfl, by omega, HR.out.symm ▸ auto_next loE HA.out (by rw [← HR.out]; exact H3.out)⟩
        case measure => simp [intOf]; omega
    · go_wp2_with fail
      go_ret
      exact ⟨⟨j, rfl, fin _ (goal_esc (auto_out loE HA.out (.inr (by rw [bt_out (by omega)]; omega))))⟩, rfl⟩

theorem model_calls (s : ByteArray) (w : World) (hs : s.size ≤ 1048576) :
    Calls Try.prog 11 #[.string s] w fun e w' => (∃ n : Nat, e = .returned (.int .i64 n) ∧ IsEsc (bt s) s.size n) ∧ w' = w := by
  by_cases h2 : s.size < 2
  · exact model_short s w h2
  · have h2' : 2 ≤ s.size := by omega
    by_cases hc : s[1].toNat = 91
    · exact model_csi s w hs h2' hc
    · by_cases hk : ctl s[1].toNat
      · exact model_ctl s w hs h2' hk
      · exact model_esc s w hs h2' hc hk
end Go.Proofs.Qxb6600630a
