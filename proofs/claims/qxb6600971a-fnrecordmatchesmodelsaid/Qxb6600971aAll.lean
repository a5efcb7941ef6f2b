/-
  'recordAll', walked.
-/
import Derived.Test.Qxb6600971aSteps
import Derived.Deep.RegionWith
import Derived.Deep.DeepCutAuto
namespace Go.Proofs.Qxb6600971a
open Go.RowKit Go.Deep

/-- the first k steps, recorded -/
def recs (f : Nat → St) : Nat → List St
  | 0 => []
  | k + 1 => rec1 (recs f k) (f k)

theorem rec1_len (D : List St) (s : St) : (rec1 D s).length ≤ D.length + 1 := by
  unfold rec1
  split
  · omega
  · have := List.length_filter_le (fun e : St => decide (e.id ≠ s.id)) D
    simp
    simpa using this
theorem recs_len (f : Nat → St) : ∀ k, (recs f k).length ≤ k
  | 0 => Nat.le_refl _
  | k + 1 => Nat.le_trans (rec1_len _ _) (Nat.succ_le_succ (recs_len f k))

set_option maxHeartbeats 1000000 in
theorem recordAll_calls (w : World) (r : Nat) (a : Option Addr) (n cap b off B : Nat) (f : Nat → St) (h : RdS w a n cap b off f) (hn : n ≤ 65536) (hB : n = 0 ∨ b < B) (hst : ST w r none [] (fun _ => none) 0 B) :
    Calls Try.prog 18 #[ptr r, .slice a n cap] w fun e w' => e = .returned (.tuple #[]) ∧ Below B w w' ∧ ∃ mo L M now, ST w' r mo L M now B ∧ L.map Cl.dat = recs f n := by
  go_enter Try.func18, Try.ntmps18
  go_wp2_with fail
  go_loopw [7] (fun i wr => ∃ (k : Nat) (mo : Option Nat) (L : List Cl) (M : ByteArray → Option Nat) (now : Int), i = .int .i64 k ∧ k ≤ n ∧ Below B w wr ∧ ST wr r mo L M now B ∧ L.map Cl.dat = recs f k) (fun i _ => n - (intOf i).toNat)
  case atStart => exact ⟨0, none, [], fun _ => none, 0, rfl, by omega, Below.refl _ _, hst, rfl⟩
  case round =>
    obtain ⟨k, mo, L, M, now, rfl, hk, hbel, hs, hL⟩ := hrel
    by_cases hlt : k < n
    · have hr := h.later hbel hB
      obtain ⟨q0, q1, q2, q3, q4⟩ := hr.cells hlt
      have hi := h.idx k hlt
      have hid := h.ids k hlt
      have hbB : b < B := by rcases hB with e | e <;> omega
      have HS : Hid (ST wr r mo L M now B ∧ L.map Cl.dat = recs f k ∧ Below B w wr ∧ RdS wr a n cap b off f) := ⟨hs, hL, hbel, hr⟩
      clear hs hL hbel hr
      go_wp2_with fail
      clear q0 q1 q2 q3 q4
      refine (setNow_calls _ r mo L M now (f k).now B HS.out.1).mono ?_
      rintro e w1 ⟨rfl, hb1, hs1⟩
      have hr1 := HS.out.2.2.2.later hb1 (.inr hbB)
      obtain ⟨q0, q1, q2, q3, q4⟩ := hr1.cells hlt
      have hb1' := hr1.old k hlt
      have hlen : L.length ≤ 100000 := by
        have e1 := congrArg List.length HS.out.2.1
        rw [List.length_map] at e1
        have e2 := recs_len f k
        omega
      have HS1 : Hid (ST w1 r mo L M (f k).now B ∧ Below B wr w1) := ⟨hs1, hb1⟩
      clear hs1 hb1 hr1
      go_upto_region 4 with fail
      have HP : Hid (Calls Try.prog 11 #[ptr r, .agg #[.string (f k).id, .int .u64 (f k).seq], .int .i64 (f k).n, .int .u64 (f k).first]
          ((w1.alloc (.cells #[.string (f k).id, .int .u64 (f k).seq, .int .i64 (f k).n, .int .u64 (f k).first, .int .i64 (f k).now] 37)).alloc (.cells #[.string (f k).id, .int .u64 (f k).seq] 40)).drew
          fun e w' => e = .returned (.bool (!refused (recs f k) (f k))) ∧ Hid (Below B w w' ∧ ∃ mo' L' M' now', ST w' r mo' L' M' now' B ∧ L'.map Cl.dat = recs f (k + 1))) := by
        have hbb : Below w1.heap.size w1 ((w1.alloc (.cells #[.string (f k).id, .int .u64 (f k).seq, .int .i64 (f k).n, .int .u64 (f k).first, .int .i64 (f k).now] 37)).alloc (.cells #[.string (f k).id, .int .u64 (f k).seq] 40)).drew :=
          (((Below.refl _ _).alloc (Nat.le_refl _) _).alloc (by simp) _).drew
        refine (zzrecord_calls _ r mo L M B (f k) (HS1.out.1.keep hbb) hid hlen).mono ?_
        rintro e w' ⟨rfl, hb, mo', L', M', h1, h2⟩
        rw [HS.out.2.1]
        exact ⟨rfl, (HS.out.2.2.1.trans (HS1.out.2.trans ((hbb.mono HS1.out.1.low).trans hb))), mo', L', M', _, h1, by rw [h2, HS.out.2.1]; rfl⟩
      go_region_with (first
          | (go_at_call 12; refine (idOf_calls _ (f k)).mono ?_; rintro e w' ⟨rfl, rfl⟩)
          | (go_at_call 11; refine HP.out.mono ?_; rintro e w' ⟨rfl, hfin⟩))
      all_goals
        clear HP q0 q1 q2 q3 q4
        go_wp2_with fail
        go_roundw
        case rel =>
          obtain ⟨g1, mo', L', M', now', g2, g3⟩ := hfin
          exact ⟨k + 1, mo', L', M', now', by go_num, by omega, g1, g2, g3⟩
        case measure => simp [intOf]; omega
    · go_wp2_with fail
      go_end0
      obtain rfl : k = n := by omega
      exact ⟨rfl, hbel, mo, L, M, now, hs, hL⟩
end Go.Proofs.Qxb6600971a
