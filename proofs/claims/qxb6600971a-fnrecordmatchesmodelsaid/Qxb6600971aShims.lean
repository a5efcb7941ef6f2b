/-
  The package's small doors, walked.
-/
import Derived.Test.Qxb6600971aState
namespace Go.Proofs.Qxb6600971a
open Go.RowKit Go.Deep

section readers
variable (w : World) (c : Cl) (pv nx : Value) (h : Node w c pv nx)
include h
theorem prev_calls : Calls Try.prog 23 #[ptr c.blk] w fun e w' => e = .returned pv ∧ w' = w := by
  obtain ⟨c0, c1, c2, c3, c4, c5, c6, cf⟩ := node_cells h
  clear h; unfold ptr
  go_enter Try.func23, Try.ntmps23
  go_wp2_with fail
  go_ret
  exact ⟨rfl, rfl⟩
theorem next_calls : Calls Try.prog 24 #[ptr c.blk] w fun e w' => e = .returned nx ∧ w' = w := by
  obtain ⟨c0, c1, c2, c3, c4, c5, c6, cf⟩ := node_cells h
  clear h; unfold ptr
  go_enter Try.func24, Try.ntmps24
  go_wp2_with fail
  go_ret
  exact ⟨rfl, rfl⟩
theorem id_calls : Calls Try.prog 27 #[ptr c.blk] w fun e w' => e = .returned (.string c.id) ∧ w' = w := by
  obtain ⟨c0, c1, c2, c3, c4, c5, c6, cf⟩ := node_cells h
  clear h; unfold ptr
  go_enter Try.func27, Try.ntmps27
  go_wp2_with fail
  go_ret
  exact ⟨rfl, rfl⟩
theorem seq_calls : Calls Try.prog 28 #[ptr c.blk] w fun e w' => e = .returned (.int .u64 c.seq) ∧ w' = w := by
  obtain ⟨c0, c1, c2, c3, c4, c5, c6, cf⟩ := node_cells h
  clear h; unfold ptr
  go_enter Try.func28, Try.ntmps28
  go_wp2_with fail
  go_ret
  exact ⟨rfl, rfl⟩
theorem first_calls : Calls Try.prog 29 #[ptr c.blk] w fun e w' => e = .returned (.int .u64 c.first) ∧ w' = w := by
  obtain ⟨c0, c1, c2, c3, c4, c5, c6, cf⟩ := node_cells h
  clear h; unfold ptr
  go_enter Try.func29, Try.ntmps29
  go_wp2_with fail
  go_ret
  exact ⟨rfl, rfl⟩
theorem ent_calls : Calls Try.prog 30 #[ptr c.blk] w fun e w' => e = .returned (.int .i64 c.ent) ∧ w' = w := by
  obtain ⟨c0, c1, c2, c3, c4, c5, c6, cf⟩ := node_cells h
  clear h; unfold ptr
  go_enter Try.func30, Try.ntmps30
  go_wp2_with fail
  go_ret
  exact ⟨rfl, rfl⟩
theorem at_calls : Calls Try.prog 31 #[ptr c.blk] w fun e w' => e = .returned (.int .i64 c.tm) ∧ w' = w := by
  obtain ⟨c0, c1, c2, c3, c4, c5, c6, cf⟩ := node_cells h
  clear h; unfold ptr
  go_enter Try.func31, Try.ntmps31
  go_wp2_with fail
  go_ret
  exact ⟨rfl, rfl⟩
end readers

section log
variable (w : World) (r : Nat) (mo : Option Nat) (hd tl : Value) (now peak : Int) (h : Rq w r mo hd tl now peak)
include h
theorem oldest_calls : Calls Try.prog 26 #[ptr r] w fun e w' => e = .returned hd ∧ w' = w := by
  obtain ⟨r0, r1, r2, r3, r4, rf⟩ := rq_cells h
  clear h; unfold ptr
  go_enter Try.func26, Try.ntmps26
  go_wp2_with fail
  go_ret
  exact ⟨rfl, rfl⟩
theorem newest_calls : Calls Try.prog 32 #[ptr r] w fun e w' => e = .returned tl ∧ w' = w := by
  obtain ⟨r0, r1, r2, r3, r4, rf⟩ := rq_cells h
  clear h; unfold ptr
  go_enter Try.func32, Try.ntmps32
  go_wp2_with fail
  go_ret
  exact ⟨rfl, rfl⟩
theorem peak_calls : Calls Try.prog 16 #[ptr r] w fun e w' => e = .returned (.int .i64 peak) ∧ w' = w := by
  obtain ⟨r0, r1, r2, r3, r4, rf⟩ := rq_cells h
  clear h; unfold ptr
  go_enter Try.func16, Try.ntmps16
  go_wp2_with fail
  go_ret
  exact ⟨rfl, rfl⟩
theorem count_calls (M : ByteArray → Option Nat) (n : Nat) (hm : MapIs w mo M n) : Calls Try.prog 15 #[ptr r] w fun e w' => e = .returned (.int .i64 n) ∧ w' = w := by
  obtain ⟨r0, r1, r2, r3, r4, rf⟩ := rq_cells h
  have hlen := hm.len
  clear h hm; unfold ptr
  go_enter Try.func15, Try.ntmps15
  go_wp2_with fail
  go_ret
  exact ⟨rfl, rfl⟩
theorem lookup_calls (M : ByteArray → Option Nat) (n : Nat) (hm : MapIs w mo M n) (s : ByteArray) (hs : s.size ≤ maxLen) : Calls Try.prog 21 #[ptr r, .string s] w fun e w' => e = .returned (ptrO (M s)) ∧ w' = w := by
  obtain ⟨r0, r1, r2, r3, r4, rf⟩ := rq_cells h
  have hlook := hm.look hs
  clear h hm; unfold ptr
  go_enter Try.func21, Try.ntmps21
  go_wp2_with fail
  go_ret
  exact ⟨rfl, rfl⟩
end log

theorem setNow_calls (w : World) (r : Nat) (mo : Option Nat) (L : List Cl) (M : ByteArray → Option Nat) (now t : Int) (B : Nat) (h : ST w r mo L M now B) :
    Calls Try.prog 10 #[ptr r, .int .i64 t] w fun e w' => e = .returned (.tuple #[]) ∧ Below B w w' ∧ ST w' r mo L M t B := by
  obtain ⟨r0, r1, r2, r3, r4, rf⟩ := rq_cells h.ls.rq
  have H : Hid (ST w r mo L M now B) := h
  clear h
  show Calls Try.prog 10 #[.pointer (some ⟨r, 0, none⟩), .int .i64 t] w _
  go_enter Try.func10, Try.ntmps10
  go_wp2_with fail
  go_end0
  have h := H.out
  have hr : B ≤ r := h.base r (.inl (.inl rfl))
  refine ⟨rfl, (Below.refl _ _).setCell hr _, ⟨⟨(rq_set h.ls.rq).2.2.1 _, seg_setOther h.ls.seg (a := ⟨r, 3, none⟩) h.ls.ne _, h.ls.nd⟩, h.map.of_block (fun mb e => ?_), h.found, h.free, h.base, ?_⟩⟩
  · subst e
    exact blk_setCell_other _ _ _ _ (h.map.not_row h.ls.rq)
  · rw [nblk_setCell]; exact h.low

theorem idOf_calls (w : World) (s : St) :
    Calls Try.prog 12 #[.agg #[.string s.id, .int .u64 s.seq, .int .i64 s.n, .int .u64 s.first, .int .i64 s.now]] w fun e w' => e = .returned (.agg #[.string s.id, .int .u64 s.seq]) ∧ w' = (w.alloc (.cells #[.string s.id, .int .u64 s.seq, .int .i64 s.n, .int .u64 s.first, .int .i64 s.now] 37)).alloc (.cells #[.string s.id, .int .u64 s.seq] 40) := by
  go_enter Try.func12, Try.ntmps12
  go_wp2_with fail
  refine bodyPost_ret (v := .agg #[.string s.id, .int .u64 s.seq]) (by simp [results, Try.results12, go_sem]) rfl ⟨rfl, rfl⟩

theorem zzrecord_calls (w : World) (r : Nat) (mo : Option Nat) (L : List Cl) (M : ByteArray → Option Nat) (B : Nat) (s : St) (h : ST w r mo L M s.now B) (hid : s.id.size ≤ maxLen) (hcnt : L.length ≤ 100000) :
    Calls Try.prog 11 #[ptr r, .agg #[.string s.id, .int .u64 s.seq], .int .i64 s.n, .int .u64 s.first] w fun e w' => e = .returned (.bool (!refused (L.map Cl.dat) s)) ∧ Below B w w' ∧
      ∃ mo' L' M', ST w' r mo' L' M' s.now B ∧ L'.map Cl.dat = rec1 (L.map Cl.dat) s := by
  have P := record_calls (w.alloc (.cells #[.string s.id, .int .u64 s.seq] 40)) r mo L M B s (h.keep ((Below.refl _ _).alloc (Nat.le_refl _) _)) hid hcnt
  have hl := h.low
  clear h
  go_enter Try.func11, Try.ntmps11
  go_wp2_with fail
  refine P.mono ?_
  rintro e w' ⟨rfl, hb, h⟩
  have HH : Hid (∃ mo' L' M', ST w' r mo' L' M' s.now B ∧ L'.map Cl.dat = rec1 (L.map Cl.dat) s) := h
  clear P h
  go_wp2_with fail
  go_ret
  exact ⟨rfl, ((Below.refl _ _).alloc hl _).trans hb, HH.out⟩
end Go.Proofs.Qxb6600971a
