/-
  'stringEnd' at three quotes, walked.
-/
import Derived.Test.Qxb6600579aStringEnd1
namespace Go.Proofs.Qxb6600579a
open Go.RowKit
open Plain

theorem fin_stop {b : Nat → Nat} {j q m : Nat} (h : Run b (j + 3) q m) (hm : m ≤ 2) (h2 : m < 2 → b (j + 3 + m) ≠ q) : j + 3 + m = fin b 3 q j := by
  unfold fin ext
  simp only [show (3 : Nat) ≠ 1 by omega, if_false]
  by_cases e0 : m = 0
  · subst e0; rw [if_neg (h2 (by omega))]
  · rw [if_pos (h 0 (by omega))]
    by_cases e1 : m = 1
    · subst e1; rw [if_neg (h2 (by omega))]
    · rw [if_pos (h 1 (by omega))]; omega

set_option maxHeartbeats 2000000 in
theorem end_three (s : ByteArray) (i : Nat) (w : World) (c : UInt8) (hs : s.size ≤ 1048576) (hi : i < s.size) (HQ : Hid (c.toNat = bt s i)) (HW : Hid (width (bt s) i = 3)) (hex : s.extract i (i + 1) = qs c 1) (hr3 : runB s i c 3 = true) :
    Calls Try.prog 17 #[.string s, .int .i64 i] w fun e w' => (∃ n : Nat, e = .returned (.int .i64 n) ∧ IsEnd (bt s) s.size i n) ∧ Below w.heap.size w w' := by
  have hb := bt_bytes s
  have hq : c.toNat < 256 := UInt8.toNat_lt _
  have z1 := qs_size c 1
  have z3 := qs_size c 3
  have y1 : ∀ h, (qs c 1)[0]'h = c := qs_get c 1 0
  have y3 : ∀ h, (qs c 3)[0]'h = c := qs_get c 3 0
  have r3 := rep_any c
  go_enter Try.func17, Try.ntmps17
  go_upto_region 2 with fail
  go_cut [19] (fun v wx => v = .bool true ∧ Below w.heap.size w wx)
  case first =>
    go_region_with (first | (go_at_call 22; refine (r3 _).mono ?_; rintro e w' ⟨rfl, hbw⟩) | (go_at_call 21; refine (pre_any _ _ _ _ _).mono ?_; rintro e w' ⟨rfl, rfl⟩))
    all_goals (go_wp2_with fail; go_meet; exact ⟨rfl, below_undraw hbw⟩)
  case rest =>
  obtain ⟨rfl, hbel⟩ := hcut
  clear hr3 hex y1 z1
  go_wp2_with (go_at_call 22; refine (r3 _).mono ?_; rintro e w1 ⟨rfl, hbw⟩)
  replace hbel := hbel.trans (hbw.mono hbel.size)
  clear hbw r3
  go_loop [6] (fun v => ∃ j : Nat, v = .int .i64 j ∧ j ≤ s.size + 4 ∧ Scan (bt s) (i + 3) c.toNat 3 j) (fun v => s.size + 4 - (intOf v).toNat)
  case atStart => exact ⟨i + 3, by go_num, by omega, scan_start _ _ _ _⟩
  case round =>
    obtain ⟨j, rfl, hj, hS⟩ := hrel
    have hS1 := hS.1
    have HS : Hid (Scan (bt s) (i + 3) c.toNat 3 j) := hS
    clear hS
    by_cases hlt : j < s.size
    · have HB : Hid (bt s j = s[j].toNat) := bt_in hlt
      by_cases h92 : s[j].toNat = 92
      · have h92' : ((s[j].toNat : Int) == 92) = true := by rw [h92]; rfl
        have H92 : Hid (bt s j = 92) := by rw [HB.out]; exact h92
        clear h92
        by_cases h34 : c.toNat = 34
        · have h34' : ((c.toNat : Int) == 34) = true := by rw [h34]; rfl
          have H34 : Hid (c.toNat = 34) := h34
          clear h34
          go_wp2_with fail
          go_round
          case rel => exact ⟨j + 2, by go_num, by omega, scan_skip (by omega) HS.out H92.out H34.out⟩
          case measure => simp [intOf]; omega
        · have h34' : ((c.toNat : Int) == 34) = false := by simp; omega
          have HN : Hid (¬ (bt s j = 92 ∧ c.toNat = 34)) := fun g => h34 g.2
          clear h34
          cases hr : runB s j c 3
          · have HR : Hid (¬ Run (bt s) j c.toNat 3) := fun g => by have := (runB_iff s j c 3).2 g; rw [hr] at this; cases this
            go_wp2_with (go_at_call 21; refine (pre_any _ _ _ _ _).mono ?_; rintro e w' ⟨rfl, rfl⟩)
            go_round
            case rel => exact ⟨j + 1, by go_num, by omega, scan_next HS.out HN.out HR.out⟩
            case measure => simp [intOf]; omega
          · have HR : Hid (Run (bt s) j c.toNat 3) := (runB_iff s j c 3).1 hr
            go_wp2_with (go_at_call 21; refine (pre_any _ _ _ _ _).mono ?_; rintro e w' ⟨rfl, rfl⟩)
            go_loopw [7, 8] (fun e k wr => ∃ m : Nat, m ≤ 2 ∧ e = .int .i64 ((j + 3 + m : Nat) : Int) ∧ k = .int .i64 m ∧ Run (bt s) (j + 3) c.toNat m ∧ Below w.heap.size w wr) (fun _ k _ => 2 - (intOf k).toNat)
            case atStart => exact ⟨0, by omega, by go_num, rfl, (fun t ht => by omega), hbel⟩
            case round =>
              obtain ⟨m, hm, rfl, rfl, hrun, hbr⟩ := hrel
              have HRN : Hid (Run (bt s) (j + 3) c.toNat m) := hrun
              clear hrun
              obtain ⟨x, hx⟩ : ∃ x, j + 3 + m = x := ⟨_, rfl⟩
              have HX : Hid (j + 3 + m = x) := hx
              rw [hx]
              clear hx
              by_cases h2 : m < 2
              · have h2i : (m : Int) < 2 := by omega
                by_cases hxs : x < s.size
                · have hxi : (x : Int) < (s.size : Int) := by omega
                  by_cases hsame : s[x].toNat = c.toNat
                  · have hs' : ((s[x].toNat : Int) == (c.toNat : Int)) = true := by rw [hsame]; simp
                    have HSM : Hid (bt s (j + 3 + m) = c.toNat) := by show bt s (j + 3 + m) = c.toNat; rw [HX.out, bt_in hxs]; exact hsame
                    clear hsame
                    go_wp2_with fail
                    go_quiet (fail)
                    go_wp2_with fail
                    go_roundw
                    case rel => exact ⟨m + 1, by omega, by have := HX.out; go_num, by go_num, run_snoc HRN.out HSM.out, below_drewN hbr⟩
                    case measure => simp [intOf]; omega
                  · have hs' : ((s[x].toNat : Int) == (c.toNat : Int)) = false := by simp; omega
                    have HSM : Hid (bt s (j + 3 + m) ≠ c.toNat) := by show bt s (j + 3 + m) ≠ c.toNat; rw [HX.out, bt_in hxs]; exact hsame
                    clear hsame
                    go_wp2_with fail
                    go_quiet (fail)
                    go_wp2_with fail
                    go_ret
                    exact ⟨⟨fin (bt s) 3 c.toNat j, ret_int (by rw [← HX.out, fin_stop HRN.out hm (fun _ => HSM.out)]), isEnd_of HW.out HQ.out (scan_hit HS.out HR.out)⟩, below_drewN hbr⟩
                · have hxs' : decide ((x : Int) < (s.size : Int)) = false := by simp; omega
                  have HSM : Hid (bt s (j + 3 + m) ≠ c.toNat) := by show bt s (j + 3 + m) ≠ c.toNat; rw [HX.out, bt_out (by omega)]; omega
                  go_wp2_with fail
                  go_quiet (fail)
                  go_wp2_with fail
                  go_ret
                  exact ⟨⟨fin (bt s) 3 c.toNat j, ret_int (by rw [← HX.out, fin_stop HRN.out hm (fun _ => HSM.out)]), isEnd_of HW.out HQ.out (scan_hit HS.out HR.out)⟩, below_drewN hbr⟩
              · have h2' : decide ((m : Int) < 2) = false := by simp; omega
                go_wp2_with fail
                go_quiet (fail)
                go_wp2_with fail
                go_ret
                exact ⟨⟨fin (bt s) 3 c.toNat j, ret_int (by rw [← HX.out, fin_stop HRN.out hm (fun h => absurd h h2)]), isEnd_of HW.out HQ.out (scan_hit HS.out HR.out)⟩, below_drewN hbr⟩
      · have h92' : ((s[j].toNat : Int) == 92) = false := by simp; omega
        have HN : Hid (¬ (bt s j = 92 ∧ c.toNat = 34)) := fun g => h92 (by rw [← HB.out]; exact g.1)
        clear h92
        cases hr : runB s j c 3
        · have HR : Hid (¬ Run (bt s) j c.toNat 3) := fun g => by have := (runB_iff s j c 3).2 g; rw [hr] at this; cases this
          go_wp2_with (go_at_call 21; refine (pre_any _ _ _ _ _).mono ?_; rintro e w' ⟨rfl, rfl⟩)
          go_round
          case rel => exact ⟨j + 1, by go_num, by omega, scan_next HS.out HN.out HR.out⟩
          case measure => simp [intOf]; omega
        · have HR : Hid (Run (bt s) j c.toNat 3) := (runB_iff s j c 3).1 hr
          go_wp2_with (go_at_call 21; refine (pre_any _ _ _ _ _).mono ?_; rintro e w' ⟨rfl, rfl⟩)
          go_loopw [7, 8] (fun e k wr => ∃ m : Nat, m ≤ 2 ∧ e = .int .i64 ((j + 3 + m : Nat) : Int) ∧ k = .int .i64 m ∧ Run (bt s) (j + 3) c.toNat m ∧ Below w.heap.size w wr) (fun _ k _ => 2 - (intOf k).toNat)
          case atStart => exact ⟨0, by omega, by go_num, rfl, (fun t ht => by omega), hbel⟩
          case round =>
            obtain ⟨m, hm, rfl, rfl, hrun, hbr⟩ := hrel
            have HRN : Hid (Run (bt s) (j + 3) c.toNat m) := hrun
            clear hrun
            obtain ⟨x, hx⟩ : ∃ x, j + 3 + m = x := ⟨_, rfl⟩
            have HX : Hid (j + 3 + m = x) := hx
            rw [hx]
            clear hx
            by_cases h2 : m < 2
            · have h2i : (m : Int) < 2 := by omega
              by_cases hxs : x < s.size
              · have hxi : (x : Int) < (s.size : Int) := by omega
                by_cases hsame : s[x].toNat = c.toNat
                · have hs' : ((s[x].toNat : Int) == (c.toNat : Int)) = true := by rw [hsame]; simp
                  have HSM : Hid (bt s (j + 3 + m) = c.toNat) := by show bt s (j + 3 + m) = c.toNat; rw [HX.out, bt_in hxs]; exact hsame
                  clear hsame
                  go_wp2_with fail
                  go_quiet (fail)
                  go_wp2_with fail
                  go_roundw
                  case rel => exact ⟨m + 1, by omega, by have := HX.out; go_num, by go_num, run_snoc HRN.out HSM.out, below_drewN hbr⟩
                  case measure => simp [intOf]; omega
                · have hs' : ((s[x].toNat : Int) == (c.toNat : Int)) = false := by simp; omega
                  have HSM : Hid (bt s (j + 3 + m) ≠ c.toNat) := by show bt s (j + 3 + m) ≠ c.toNat; rw [HX.out, bt_in hxs]; exact hsame
                  clear hsame
                  go_wp2_with fail
                  go_quiet (fail)
                  go_wp2_with fail
                  go_ret
                  exact ⟨⟨fin (bt s) 3 c.toNat j, ret_int (by rw [← HX.out, fin_stop HRN.out hm (fun _ => HSM.out)]), isEnd_of HW.out HQ.out (scan_hit HS.out HR.out)⟩, below_drewN hbr⟩
              · have hxs' : decide ((x : Int) < (s.size : Int)) = false := by simp; omega
                have HSM : Hid (bt s (j + 3 + m) ≠ c.toNat) := by show bt s (j + 3 + m) ≠ c.toNat; rw [HX.out, bt_out (by omega)]; omega
                go_wp2_with fail
                go_quiet (fail)
                go_wp2_with fail
                go_ret
                exact ⟨⟨fin (bt s) 3 c.toNat j, ret_int (by rw [← HX.out, fin_stop HRN.out hm (fun _ => HSM.out)]), isEnd_of HW.out HQ.out (scan_hit HS.out HR.out)⟩, below_drewN hbr⟩
            · have h2' : decide ((m : Int) < 2) = false := by simp; omega
              go_wp2_with fail
              go_quiet (fail)
              go_wp2_with fail
              go_ret
              exact ⟨⟨fin (bt s) 3 c.toNat j, ret_int (by rw [← HX.out, fin_stop HRN.out hm (fun h => absurd h h2)]), isEnd_of HW.out HQ.out (scan_hit HS.out HR.out)⟩, below_drewN hbr⟩
    · go_wp2_with fail
      go_ret
      exact ⟨⟨s.size, rfl, isEnd_of HW.out HQ.out (scan_out hb hq (by omega) HS.out (by omega))⟩, hbel⟩
end Go.Proofs.Qxb6600579a
