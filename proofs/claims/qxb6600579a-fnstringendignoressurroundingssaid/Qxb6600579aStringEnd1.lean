/-
  'stringEnd', walked: it answers 'Plain.IsEnd'.
-/
import Derived.Test.Qxb6600579aQuote
import Derived.Deep.RegionWith
import Derived.Deep.DeepCutAuto
import Derived.Deep.QuietTactic
import Derived.BigQuiet
namespace Go.Proofs.Qxb6600579a
open Go.RowKit
open Plain

theorem below_undraw {w w' : World} (h : Below w.drew.heap.size w.drew w') : Below w.heap.size w w' := ⟨h.os, h.tape, h.output, h.size, h.block⟩

theorem below_drewN {B : Nat} {a w : World} (h : Below B a w) {n : Nat} : Below B a (w.drewN n) := by
  induction n with
  | zero => exact h
  | succ n ih => exact ih.drew

theorem width_run {s : ByteArray} {i : Nat} {c : UInt8} (hc : c.toNat = bt s i) : width (bt s) i = if runB s i c 3 then 3 else 1 := by
  have h := runB_iff s i c 3
  cases hb : runB s i c 3
  · rw [if_neg (by simp)]
    unfold width
    rw [if_neg]
    intro g
    rw [hb] at h
    refine Bool.false_ne_true (h.2 ?_)
    intro t ht
    match t, ht with
    | 0, _ => exact hc.symm
    | 1, _ => rw [g.1, hc]
    | 2, _ => rw [g.2, hc]
  · rw [if_pos rfl]
    have hr := h.1 hb
    unfold width
    rw [if_pos ⟨by rw [hr 1 (by omega), hc], by rw [hr 2 (by omega), hc]⟩]

set_option maxHeartbeats 1000000 in
theorem end_one (s : ByteArray) (i : Nat) (w : World) (c : UInt8) (hs : s.size ≤ 1048576) (hi : i < s.size) (HQ : Hid (c.toNat = bt s i)) (HW : Hid (width (bt s) i = 1)) (hex : s.extract i (i + 1) = qs c 1) (hr3 : runB s i c 3 = false) :
    Calls Try.prog 17 #[.string s, .int .i64 i] w fun e w' => (∃ n : Nat, e = .returned (.int .i64 n) ∧ IsEnd (bt s) s.size i n) ∧ Below w.heap.size w w' := by
  have hb := bt_bytes s
  have hq : c.toNat < 256 := UInt8.toNat_lt _
  have z1 := qs_size c 1
  have z3 := qs_size c 3
  have y1 : ∀ h, (qs c 1)[0]'h = c := qs_get c 1 0
  have y3 : ∀ h, (qs c 3)[0]'h = c := qs_get c 3 0
  have r3 := rep_any c
  go_enter Try.func17, Try.ntmps17
  go_upto_region 2 with fail
  go_cut [19] (fun v wx => v = .bool false ∧ Below w.heap.size w wx)
  case first =>
    go_region_with (first | (go_at_call 22; refine (r3 _).mono ?_; rintro e w' ⟨rfl, hbw⟩) | (go_at_call 21; refine (pre_any _ _ _ _ _).mono ?_; rintro e w' ⟨rfl, rfl⟩))
    all_goals (go_wp2_with fail; go_meet; exact ⟨rfl, below_undraw hbw⟩)
  case rest =>
  obtain ⟨rfl, hbel⟩ := hcut
  clear hr3 hex y3 z3
  clear r3
  go_wp2_with fail
  go_loop [6] (fun v => ∃ j : Nat, v = .int .i64 j ∧ j ≤ s.size + 4 ∧ Scan (bt s) (i + 1) c.toNat 1 j) (fun v => s.size + 4 - (intOf v).toNat)
  case atStart => exact ⟨i + 1, by go_num, by omega, scan_start _ _ _ _⟩
  case round =>
    obtain ⟨j, rfl, hj, hS⟩ := hrel
    have hS1 := hS.1
    have HS : Hid (Scan (bt s) (i + 1) c.toNat 1 j) := hS
    clear hS
    by_cases hlt : j < s.size
    · have HB : Hid (bt s j = s[j].toNat) := bt_in hlt
      by_cases h92 : s[j].toNat = 92
      · have h92' : ((s[j].toNat : Int) == 92) = true := by rw [h92]; rfl
        have H92 : Hid (bt s j = 92) := by rw [HB.out]; exact h92
        clear h92
        by_cases h34 : c.toNat = 34
        · have h34' : ((c.toNat : Int) == 34) = true := by rw [h34]; rfl
          have H34 : Hid (c.toNat = 34) := h34
          clear h34
          go_wp2_with fail
          go_round
          case rel => exact ⟨j + 2, by go_num, by omega, scan_skip (by omega) HS.out H92.out H34.out⟩
          case measure => simp [intOf]; omega
        · have h34' : ((c.toNat : Int) == 34) = false := by simp; omega
          have HN : Hid (¬ (bt s j = 92 ∧ c.toNat = 34)) := fun g => h34 g.2
          clear h34
          cases hr : runB s j c 1
          · have HR : Hid (¬ Run (bt s) j c.toNat 1) := fun g => by have := (runB_iff s j c 1).2 g; rw [hr] at this; cases this
            go_wp2_with (go_at_call 21; refine (pre_any _ _ _ _ _).mono ?_; rintro e w' ⟨rfl, rfl⟩)
            go_round
            case rel => exact ⟨j + 1, by go_num, by omega, scan_next HS.out HN.out HR.out⟩
            case measure => simp [intOf]; omega
          · have HR : Hid (Run (bt s) j c.toNat 1) := (runB_iff s j c 1).1 hr
            go_wp2_with (go_at_call 21; refine (pre_any _ _ _ _ _).mono ?_; rintro e w' ⟨rfl, rfl⟩)
            go_loopw [7, 8] (fun e k wr => e = .int .i64 (j + 1) ∧ k = .int .i64 0 ∧ Below w.heap.size w wr) (fun _ _ _ => 0)
            case atStart => exact ⟨rfl, rfl, hbel⟩
            case round =>
              obtain ⟨rfl, rfl, hbr⟩ := hrel
              go_wp2_with fail
              go_quiet (fail)
              go_wp2_with fail
              go_ret
              exact ⟨⟨fin (bt s) 1 c.toNat j, ret_int (by simp [fin]), isEnd_of HW.out HQ.out (scan_hit HS.out HR.out)⟩, below_drewN hbr⟩
      · have h92' : ((s[j].toNat : Int) == 92) = false := by simp; omega
        have HN : Hid (¬ (bt s j = 92 ∧ c.toNat = 34)) := fun g => h92 (by rw [← HB.out]; exact g.1)
        clear h92
        cases hr : runB s j c 1
        · have HR : Hid (¬ Run (bt s) j c.toNat 1) := fun g => by have := (runB_iff s j c 1).2 g; rw [hr] at this; cases this
          go_wp2_with (go_at_call 21; refine (pre_any _ _ _ _ _).mono ?_; rintro e w' ⟨rfl, rfl⟩)
          go_round
          case rel => exact ⟨j + 1, by go_num, by omega, scan_next HS.out HN.out HR.out⟩
          case measure => simp [intOf]; omega
        · have HR : Hid (Run (bt s) j c.toNat 1) := (runB_iff s j c 1).1 hr
          go_wp2_with (go_at_call 21; refine (pre_any _ _ _ _ _).mono ?_; rintro e w' ⟨rfl, rfl⟩)
          go_loopw [7, 8] (fun e k wr => e = .int .i64 (j + 1) ∧ k = .int .i64 0 ∧ Below w.heap.size w wr) (fun _ _ _ => 0)
          case atStart => exact ⟨rfl, rfl, hbel⟩
          case round =>
            obtain ⟨rfl, rfl, hbr⟩ := hrel
            go_wp2_with fail
            go_quiet (fail)
            go_wp2_with fail
            go_ret
            exact ⟨⟨fin (bt s) 1 c.toNat j, ret_int (by simp [fin]), isEnd_of HW.out HQ.out (scan_hit HS.out HR.out)⟩, below_drewN hbr⟩
    · go_wp2_with fail
      go_ret
      exact ⟨⟨s.size, rfl, isEnd_of HW.out HQ.out (scan_out hb hq (by omega) HS.out (by omega))⟩, hbel⟩
end Go.Proofs.Qxb6600579a
