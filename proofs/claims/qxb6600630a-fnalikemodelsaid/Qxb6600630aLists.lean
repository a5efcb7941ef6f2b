/-
  A parameterList in memory; 'ZZNewList', walked.
-/
import Derived.Test.Qxb6600630aSame
namespace Go.Proofs.Qxb6600630a
open Go.RowKit

/-- cell i of a row of values: text, known, and four zero fields -/
def vcell (tx : Nat → ByteArray) (kn : Nat → Bool) (i : Nat) : Value :=
  if i % 6 = 0 then .string (tx (i / 6)) else if i % 6 = 1 then .bool (kn (i / 6)) else if i % 6 = 2 then .bool false else if i % 6 = 3 then .bool false else if i % 6 = 4 then .int .i64 0 else .pointer none

theorem vcell0 (tx : Nat → ByteArray) (kn : Nat → Bool) (k : Nat) : vcell tx kn (k * 6) = .string (tx k) := by
  unfold vcell; rw [if_pos (by omega), show k * 6 / 6 = k by omega]
theorem vcell1 (tx : Nat → ByteArray) (kn : Nat → Bool) (k : Nat) : vcell tx kn (k * 6 + 1) = .bool (kn k) := by
  unfold vcell; rw [if_neg (by omega), if_pos (by omega), show (k * 6 + 1) / 6 = k by omega]
theorem vcell2 (tx : Nat → ByteArray) (kn : Nat → Bool) (k : Nat) : vcell tx kn (k * 6 + 2) = .bool false := by
  unfold vcell; rw [if_neg (by omega), if_neg (by omega), if_pos (by omega)]
theorem vcell3 (tx : Nat → ByteArray) (kn : Nat → Bool) (k : Nat) : vcell tx kn (k * 6 + 3) = .bool false := by
  unfold vcell; rw [if_neg (by omega), if_neg (by omega), if_neg (by omega), if_pos (by omega)]
theorem vcell4 (tx : Nat → ByteArray) (kn : Nat → Bool) (k : Nat) : vcell tx kn (k * 6 + 4) = .int .i64 0 := by
  unfold vcell; rw [if_neg (by omega), if_neg (by omega), if_neg (by omega), if_neg (by omega), if_pos (by omega)]
theorem vcell5 (tx : Nat → ByteArray) (kn : Nat → Bool) (k : Nat) : vcell tx kn (k * 6 + 5) = .pointer none := by
  unfold vcell; rw [if_neg (by omega), if_neg (by omega), if_neg (by omega), if_neg (by omega), if_neg (by omega)]
theorem vcell_congr {tx tx' : Nat → ByteArray} {kn kn' : Nat → Bool} {i : Nat} (h1 : tx (i / 6) = tx' (i / 6)) (h2 : kn (i / 6) = kn' (i / 6)) : vcell tx kn i = vcell tx' kn' i := by
  unfold vcell; rw [h1, h2]

theorem vcell_rest {tx tx' : Nat → ByteArray} {kn kn' : Nat → Bool} {i : Nat} (h : 2 ≤ i % 6) : vcell tx kn i = vcell tx' kn' i := by
  have h0 : ¬ i % 6 = 0 := by omega
  have h1 : ¬ i % 6 = 1 := by omega
  simp only [vcell, h0, h1, if_false]

/-- the zero value's cells -/
def vzero : Nat → Value := vcell (fun _ => ByteArray.empty) (fun _ => false)

theorem Try.zero58 : (Try.prog.info? 58).map (fun i => (i.zero, i.size, i.bytes)) = some (some (.agg #[.string ByteArray.empty, .bool false, .bool false, .bool false, .int .i64 0, .pointer none]), 6, 40) := by kernel_rfl

theorem run_makeVals (n : Nat) (hn : n ≤ 65536) (w : World) : (Instr.makeSlice 56 (.int .i64 (n : Int)) (.int .i64 (n : Int))).run Try.prog w =
    .ok (.slice (some ⟨w.heap.size, 0, none⟩) n n) (w.alloc (.cells (madeCells #[.string ByteArray.empty, .bool false, .bool false, .bool false, .int .i64 0, .pointer none] (n * 6)) 58)) := by
  obtain ⟨i, hi, hzz⟩ := Option.map_eq_some_iff.1 Try.zero58
  simp only [Prod.mk.injEq] at hzz
  obtain ⟨h1, h2, h3⟩ := hzz
  have := run_make w 56 58 i _ Try.underlying56 hi h1 .i64 .i64 (n : Int) (n : Int) (by omega) (by omega) (by rw [h3]; omega) (by omega)
  rw [h2] at this
  simpa [Value.cells] using this

theorem rowIs_vals (w : World) (n : Nat) : (w.alloc (.cells (madeCells #[.string ByteArray.empty, .bool false, .bool false, .bool false, .int .i64 0, .pointer none] (n * 6)) 58)).rowIs w.heap.size 58 (n * 6) vzero := by
  have h := World.rowIs_alloc w (madeCells #[.string ByteArray.empty, .bool false, .bool false, .bool false, .int .i64 0, .pointer none] (n * 6)) 58 vzero ?_
  · rw [size_madeCells] at h; exact h
  · intro i hi
    rw [size_madeCells] at hi
    have hm : i % 6 = 0 ∨ i % 6 = 1 ∨ i % 6 = 2 ∨ i % 6 = 3 ∨ i % 6 = 4 ∨ i % 6 = 5 := by omega
    simp only [madeCells, Array.getElem?_map, Array.getElem?_range, hi, if_true, Option.map_some]
    unfold vzero vcell
    rcases hm with e | e | e | e | e | e <;> simp [e]

structure IsList (w : World) (p b n cap : Nat) (tx : Nat → ByteArray) (kn : Nat → Bool) (told : Int) : Prop where
  hd : w.cell? ⟨p, 0, none⟩ = some (.slice (some ⟨b, 0, none⟩) n cap)
  tl : w.cell? ⟨p, 1, none⟩ = some (.int .i64 told)
  vals : ∀ i, i < n * 6 → w.cell? ⟨b, i, none⟩ = some (vcell tx kn i)
  pold : p < w.heap.size
  bold : b < w.heap.size
  small : n ≤ 65536
  pblk : ∃ c t, w.heap[p]? = some (.cells c t (0, 0))
  bblk : ∃ c t, w.heap[b]? = some (.cells c t (0, 0))

theorem IsList.keep {w w' : World} {p b n cap : Nat} {tx : Nat → ByteArray} {kn : Nat → Bool} {told : Int} (h : IsList w p b n cap tx kn told) (hb : Below w.heap.size w w') : IsList w' p b n cap tx kn told :=
  ⟨by rw [hb.cell (p := ⟨p, 0, none⟩) h.pold]; exact h.hd, by rw [hb.cell (p := ⟨p, 1, none⟩) h.pold]; exact h.tl, fun i hi => by rw [hb.cell (p := ⟨b, i, none⟩) h.bold]; exact h.vals i hi,
    Nat.lt_of_lt_of_le h.pold hb.size, Nat.lt_of_lt_of_le h.bold hb.size, h.small, by rw [hb.block p h.pold]; exact h.pblk, by rw [hb.block b h.bold]; exact h.bblk⟩

set_option maxHeartbeats 1000000 in
theorem new_nil (w : World) (v1 v2 : Value) (t : Int) :
    Calls Try.prog 21 #[.bool true, v1, v2, .int .i64 t] w fun e w' => e = .returned (.pointer none) ∧ w' = w := by
  go_enter Try.func21, Try.ntmps21
  go_wp2
  go_ret
  exact ⟨rfl, rfl⟩

theorem vals_step {wr : World} {B n k : Nat} {f : Nat → ByteArray} {p : Nat → Bool} (h : wr.rowIs B 58 (n * 6) (fun j => if j < k * 6 then vcell f p j else vzero j)) :
    ((wr.setCell ⟨B, k * 6, none⟩ (.string (f k))).setCell ⟨B, k * 6 + 1, none⟩ (.bool (p k))).rowIs B 58 (n * 6) (fun j => if j < (k + 1) * 6 then vcell f p j else vzero j) := by
  refine ((h.set (k * 6) _).set (k * 6 + 1) _).congr fun j _ => ?_
  by_cases e1 : j = k * 6 + 1
  · subst e1; rw [if_pos rfl, if_pos (by omega), vcell1]
  · rw [if_neg e1]
    by_cases e0 : j = k * 6
    · subst e0; rw [if_pos rfl, if_pos (by omega), vcell0]
    · rw [if_neg e0]
      by_cases e2 : j < k * 6
      · rw [if_pos e2, if_pos (by omega)]
      · rw [if_neg e2]
        by_cases e3 : j < (k + 1) * 6
        · rw [if_pos e3]
          exact vcell_rest (by omega)
        · rw [if_neg e3]

theorem new_done {w wr : World} {n k : Nat} {f : Nat → ByteArray} {p : Nat → Bool} (h : wr.rowIs w.heap.size 58 (n * 6) (fun j => if j < k * 6 then vcell f p j else vzero j)) (hsz : wr.heap.size = w.heap.size + 1) (hk : n ≤ k) (t : Int) (hn : n ≤ 65536) :
    IsList (wr.alloc (.cells #[.slice (some ⟨w.heap.size, 0, none⟩) n n, .int .i64 t] 60)) (w.heap.size + 1) w.heap.size n n f p t := by
  have e : w.heap.size + 1 = wr.heap.size := hsz.symm
  refine ⟨?_, ?_, ?_, ?_, ?_, hn, ⟨_, _, by rw [e]; exact Go.Deep.blk_alloc_new _ _⟩, ?_⟩
  · rw [e]; simp
  · rw [e]; simp
  · intro i hi
    have := (h.alloc (.cells #[.slice (some ⟨w.heap.size, 0, none⟩) n n, .int .i64 t] 60)).cell hi
    rw [this, if_pos (by omega)]
  · rw [World.size_alloc]; omega
  · rw [World.size_alloc]; omega
  · obtain ⟨c, hc, _⟩ := h.alloc (.cells #[.slice (some ⟨w.heap.size, 0, none⟩) n n, .int .i64 t] 60)
    exact ⟨c, _, hc⟩

set_option maxHeartbeats 1000000 in
theorem new_some (w : World) (t : Int) (a : Option Addr) (n cap b off : Nat) (f : Nat → ByteArray) (h : Rd w 25 a n cap b off fun k => .string (f k)) (hn : n ≤ 65536)
    (a2 : Option Addr) (cap2 b2 off2 : Nat) (p : Nat → Bool) (h2 : Rd w 29 a2 n cap2 b2 off2 fun k => .bool (p k)) :
    Calls Try.prog 21 #[.bool false, .slice a n cap, .slice a2 n cap2, .int .i64 t] w fun e w' =>
      e = .returned (.pointer (some ⟨w.heap.size + 1, 0, none⟩)) ∧ IsList w' (w.heap.size + 1) w.heap.size n n f p t ∧ Below w.heap.size w w' := by
  have hmk := run_makeVals n hn
  go_enter Try.func21, Try.ntmps21
  go_wp2
  clear hmk
  go_loopw [10] (fun i wr => ∃ k : Nat, i = .int .i64 k ∧ k ≤ n ∧ wr.rowIs w.heap.size 58 (n * 6) (fun j => if j < k * 6 then vcell f p j else vzero j) ∧ wr.heap.size = w.heap.size + 1 ∧ Below w.heap.size w wr) (fun i _ => n - (intOf i).toNat)
  case atStart => exact ⟨0, rfl, by omega, (rowIs_vals w n).congr (fun j _ => by simp), by simp, (Below.refl _ _).alloc (Nat.le_refl _) _⟩
  case round =>
    obtain ⟨k, rfl, hk, hrow, hsz, hbel⟩ := hrel
    by_cases hlt : k < n
    · have hc : wr.cell? ⟨b, off + k, none⟩ = some (.string (f k)) := by rw [hbel.cell (p := ⟨b, off + k, none⟩) (h.old k hlt)]; exact h.cell k hlt
      have hi := h.idx k hlt
      have hc2 : wr.cell? ⟨b2, off2 + k, none⟩ = some (.bool (p k)) := by rw [hbel.cell (p := ⟨b2, off2 + k, none⟩) (h2.old k hlt)]; exact h2.cell k hlt
      have hi2 := h2.idx k hlt
      have hi3 := idx56 w.heap.size n n k hlt
      have ho := h.old k hlt
      have ho2 := h2.old k hlt
      have hc0 : wr.cell? ⟨w.heap.size, k * 6, none⟩ = some (.string ByteArray.empty) := by rw [hrow.cell (by omega), if_neg (by omega)]; exact congrArg some (vcell0 _ _ k)
      have hc1 : wr.cell? ⟨w.heap.size, k * 6 + 1, none⟩ = some (.bool false) := by rw [hrow.cell (by omega), if_neg (by omega)]; exact congrArg some (vcell1 _ _ k)
      have hf0 := hrow.frozen (k * 6)
      have hf1 := hrow.frozen (k * 6 + 1)
      have HR : Hid (((wr.setCell ⟨w.heap.size, k * 6, none⟩ (.string (f k))).setCell ⟨w.heap.size, k * 6 + 1, none⟩ (.bool (p k))).rowIs w.heap.size 58 (n * 6) (fun j => if j < (k + 1) * 6 then vcell f p j else vzero j)) := vals_step hrow
      have HB : Hid (Below w.heap.size w ((wr.setCell ⟨w.heap.size, k * 6, none⟩ (.string (f k))).setCell ⟨w.heap.size, k * 6 + 1, none⟩ (.bool (p k)))) := (hbel.setCell (p := ⟨w.heap.size, k * 6, none⟩) (Nat.le_refl _) _).setCell (p := ⟨w.heap.size, k * 6 + 1, none⟩) (Nat.le_refl _) _
      have HZ : Hid (((wr.setCell ⟨w.heap.size, k * 6, none⟩ (.string (f k))).setCell ⟨w.heap.size, k * 6 + 1, none⟩ (.bool (p k))).heap.size = w.heap.size + 1) := by
        show ((wr.setCell _ _).setCell _ _).heap.size = _
        simpa using hsz
      clear hrow hbel hsz
      go_wp2
      go_roundw
      case rel => exact ⟨k + 1, by go_num, by omega, HR.out, HZ.out, HB.out⟩
      case measure => simp [intOf]; omega
    · have hd := new_done hrow hsz (by omega : n ≤ k)
      go_wp2
      go_ret
      refine ⟨rfl, ?_, hbel.alloc (by omega) _⟩
      exact hd t hn
end Go.Proofs.Qxb6600630a
