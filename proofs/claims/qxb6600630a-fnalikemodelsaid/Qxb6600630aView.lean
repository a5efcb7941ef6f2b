/-
  'ZZListView', 'slices.Clone' at values, walked.
-/
import Derived.Test.Qxb6600630aLists
namespace Go.Proofs.Qxb6600630a
open Go.RowKit

set_option maxHeartbeats 1000000 in
theorem view_nil (w : World) :
    Calls Try.prog 23 #[.pointer none] w fun e w' => e = .returned (.tuple #[.bool true, .slice none 0 0, .slice none 0 0, .int .i64 0]) ∧ w' = w := by
  go_enter Try.func23, Try.ntmps23
  go_wp2
  exact bodyPost_ret (v := .tuple #[.bool true, .slice none 0 0, .slice none 0 0, .int .i64 0]) (by simp [results, Try.results23, go_sem]) rfl ⟨rfl, rfl⟩

theorem bel_draws {B : Nat} {a w : World} (h : Below B a w) (d : Nat) : Below B a (w.drewN d) := ⟨h.os, h.tape, h.output, h.size, h.block⟩

theorem bel_two {B : Nat} {w : World} (hB : B ≤ w.heap.size) (o o' : Obj) : Below B w ((w.alloc o).alloc o') := ((Below.refl _ _).alloc hB _).alloc (by simp; omega) _

set_option maxHeartbeats 1000000 in
theorem view_some (w : World) (p b n cap : Nat) (tx : Nat → ByteArray) (kn : Nat → Bool) (t : Int) (h : IsList w p b n cap tx kn t) :
    Calls Try.prog 23 #[.pointer (some ⟨p, 0, none⟩)] w fun e w' =>
      e = .returned (.tuple #[.bool false, .slice (some ⟨w.heap.size, 0, none⟩) n n, .slice (some ⟨w.heap.size + 1, 0, none⟩) n n, .int .i64 t]) ∧
      Rd w' 25 (some ⟨w.heap.size, 0, none⟩) n n w.heap.size 0 (fun k => .string (tx k)) ∧ Rd w' 29 (some ⟨w.heap.size + 1, 0, none⟩) n n (w.heap.size + 1) 0 (fun k => .bool (kn k)) ∧ Below w.heap.size w w' := by
  have hn := h.small
  have hp := h.pold
  have hb := h.bold
  have c0 := h.hd
  have c1 := h.tl
  have hm1 := run_make_row' (P := Try.prog) 25 9 (.string ByteArray.empty) 16 Try.underlying25 Try.info9 rfl .i64 .i64 n (by omega) (by omega)
  have hm2 := run_make_row' (P := Try.prog) 29 4 (.bool false) 1 Try.underlying29 Try.info4 rfl .i64 .i64 n (by omega) (by omega)
  go_enter Try.func23, Try.ntmps23
  go_wp2
  clear hm1 hm2
  go_loopw [8] (fun i wr => ∃ k : Nat, i = .int .i64 k ∧ k ≤ n ∧ wr.rowIs w.heap.size 9 n (fun j => if j < k then .string (tx j) else .string ByteArray.empty) ∧
      wr.rowIs (w.heap.size + 1) 4 n (fun j => if j < k then .bool (kn j) else .bool false) ∧ Below w.heap.size w wr) (fun i _ => n - (intOf i).toNat)
  case atStart =>
    refine ⟨0, rfl, by omega, ?_, ?_, bel_two (Nat.le_refl _) _ _⟩
    · exact ((World.rowIs_made w _ n 9).congr (fun j _ => by simp)).alloc _
    · have := World.rowIs_made (w.alloc (.cells (madeCells #[.string ByteArray.empty] n) 9)) (.bool false) n 4
      rw [World.size_alloc] at this
      exact this.congr (fun j _ => by simp)
  case round =>
    obtain ⟨k, rfl, hk, hr1, hr2, hbel⟩ := hrel
    have d0 : wr.cell? ⟨p, 0, none⟩ = some (.slice (some ⟨b, 0, none⟩) n cap) := by rw [hbel.cell (p := ⟨p, 0, none⟩) hp]; exact c0
    have d1 : wr.cell? ⟨p, 1, none⟩ = some (.int .i64 t) := by rw [hbel.cell (p := ⟨p, 1, none⟩) hp]; exact c1
    clear c0 c1
    by_cases hlt : k < n
    · have v0 : wr.cell? ⟨b, k * 6, none⟩ = some (.string (tx k)) := by rw [hbel.cell (p := ⟨b, k * 6, none⟩) hb, h.vals _ (by omega), vcell0]
      have v1 : wr.cell? ⟨b, k * 6 + 1, none⟩ = some (.bool (kn k)) := by rw [hbel.cell (p := ⟨b, k * 6 + 1, none⟩) hb, h.vals _ (by omega), vcell1]
      have hi := idx56 b n cap k hlt
      have hi1 := idx25 w.heap.size 0 n n k hlt
      have hi2 := idx29 (w.heap.size + 1) 0 n n k hlt
      simp only [Nat.zero_add] at hi1 hi2
      have e1 : wr.cell? ⟨w.heap.size, k, none⟩ = some (.string ByteArray.empty) := by rw [hr1.cell hlt]; simp
      have e2 : wr.cell? ⟨w.heap.size + 1, k, none⟩ = some (.bool false) := by rw [hr2.cell hlt]; simp
      have f1 := hr1.frozen k
      have f2 := hr2.frozen k
      have R1 := (row_step hr1 (.string (tx k)) rfl).setOther (a := ⟨w.heap.size + 1, k, none⟩) (by simp) (.bool (kn k))
      have R2 := row_step (hr2.setOther (a := ⟨w.heap.size, k, none⟩) (by simp) (.string (tx k))) (.bool (kn k)) rfl
      have R3 := (hbel.setCell (p := ⟨w.heap.size, k, none⟩) (Nat.le_refl _) (.string (tx k))).setCell (p := ⟨w.heap.size + 1, k, none⟩) (by simp) (.bool (kn k))
      have H1 : Hid (((wr.setCell ⟨w.heap.size, k, none⟩ (.string (tx k))).setCell ⟨w.heap.size + 1, k, none⟩ (.bool (kn k))).rowIs w.heap.size 9 n (fun j => if j < k + 1 then .string (tx j) else .string ByteArray.empty)) := R1
      have H2 : Hid (((wr.setCell ⟨w.heap.size, k, none⟩ (.string (tx k))).setCell ⟨w.heap.size + 1, k, none⟩ (.bool (kn k))).rowIs (w.heap.size + 1) 4 n (fun j => if j < k + 1 then .bool (kn j) else .bool false)) := R2
      have H3 : Hid (Below w.heap.size w ((wr.setCell ⟨w.heap.size, k, none⟩ (.string (tx k))).setCell ⟨w.heap.size + 1, k, none⟩ (.bool (kn k)))) := R3
      clear hr1 hr2 hbel R1 R2 R3
      go_wp2
      go_roundw
      case rel => exact ⟨k + 1, by go_num, by omega, H1.out, H2.out, H3.out⟩
      case measure => simp [intOf]; omega
    · go_wp2
      go_quiet (fail)
      go_wp2
      refine bodyPost_ret (v := .tuple #[.bool false, .slice (some ⟨w.heap.size, 0, none⟩) n n, .slice (some ⟨w.heap.size + 1, 0, none⟩) n n, .int .i64 t]) (by simp [results, Try.results23, go_sem]) rfl ⟨rfl, ?_, ?_, ?_⟩
      · exact ((Rd.of_row25 hr1 (by unfold maxLen; omega)).congr (fun j hj => by rw [if_pos (by omega)])).draws _
      · exact ((Rd.of_row29 hr2 (by unfold maxLen; omega)).congr (fun j hj => by rw [if_pos (by omega)])).draws _
      · exact bel_draws hbel _

theorem info58 : ∃ i0, Try.prog.info? 58 = some i0 ∧ i0.zero = some (.agg #[.string ByteArray.empty, .bool false, .bool false, .bool false, .int .i64 0, .pointer none]) ∧ i0.size = 6 ∧ i0.bytes = 40 := by
  obtain ⟨i, hi, hzz⟩ := Option.map_eq_some_iff.1 Try.zero58
  simp only [Prod.mk.injEq] at hzz
  exact ⟨i, hi, hzz.1, hzz.2.1, hzz.2.2⟩

/-- the cells of n values, one behind the other -/
def vals (tx : Nat → ByteArray) (kn : Nat → Bool) (n : Nat) : List Value := (List.range (n * 6)).map (vcell tx kn)
theorem vals_length (tx : Nat → ByteArray) (kn : Nat → Bool) (n : Nat) : (vals tx kn n).length = n * 6 := by simp [vals]
theorem vals_get {tx : Nat → ByteArray} {kn : Nat → Bool} {n j : Nat} (h : j < n * 6) : (vals tx kn n)[j]? = some (vcell tx kn j) := by
  simp [vals, List.getElem?_map, List.getElem?_range h]
theorem vcell_one (tx : Nat → ByteArray) (kn : Nat → Bool) (i : Nat) : (vcell tx kn i).oneCell' = true := by
  unfold vcell; repeat' split
  all_goals rfl

set_option maxHeartbeats 1000000 in
set_option maxRecDepth 100000 in
theorem clone_calls (w : World) (b n cap : Nat) (tx : Nat → ByteArray) (kn : Nat → Bool) (hn : n ≤ 65536) (hv : ∀ i, i < n * 6 → w.cell? ⟨b, i, none⟩ = some (vcell tx kn i)) :
    Calls Try.prog 41 #[.slice (some ⟨b, 0, none⟩) n cap] w fun e w' => ∃ v', e = .returned v' ∧ w'.ownsRow w.heap.size 58 6 v' n (vals tx kn n) ∧ v' ≠ .slice none 0 0 ∧ Below w.heap.size w w' := by
  obtain ⟨i0, hi, hz0, hz1, hz2⟩ := info58
  have q56 := fun (w : World) => Lib.run_eql_slice_nil (P := Try.prog) w 56 58 (some ⟨b, 0, none⟩) n cap 0 0 Try.underlying56
  have A : Hid (∀ i, i < n * 6 → w.cell? ⟨b, i, none⟩ = some (vcell tx kn i)) := hv
  clear hv
  go_enter Try.func41, Try.ntmps41
  go_wp2_with (at_builtin; refine wpList_append_own _ rfl _ _ 56 rfl w.heap.size 58 i0 _ 6 40 Try.underlying56 hi hz0 hz1 hz2 rfl (by omega) _ _ _ rfl (World.ownsRow_made w #[] 0 (Nat.le_refl _) (Nat.zero_le _) (by simp)) ⟨b, 0, none⟩ n cap (vals tx kn n) rfl ?qc1 ?qc2 ?qc3 ?qc4 ?qc5 ?qc6 ?_)
  case qc1 => exact vals_length _ _ _
  case qc2 =>
    intro j u hj
    have hlt : j < n * 6 := by
      have := (List.getElem?_eq_some_iff.1 hj).1
      rw [vals_length] at this; exact this
    rw [vals_get hlt] at hj
    cases hj
    rw [Addr.add_lit, Nat.zero_add]
    exact Lib.cell?_alloc_some _ (A.out j hlt)
  case qc3 =>
    intro u hu
    simp only [vals, List.mem_map] at hu
    obtain ⟨i, _, rfl⟩ := hu
    exact vcell_one _ _ _
  case qc4 => unfold maxLen; omega
  case qc5 => omega
  case qc6 => simp
  intro v' w1 hown hgrow hnil
  go_wp2
  go_ret
  refine ⟨v', rfl, by simpa using hown, ?_, ?_⟩
  · exact hnil
  · exact ((Below.refl _ w).alloc (Nat.le_refl _) _).grown hgrow (by simp) (by intro k hk; simp [Value.ownBlock] at hk; omega)
end Go.Proofs.Qxb6600630a
