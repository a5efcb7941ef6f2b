/-
  Slices that are read: one form for a nil slice, an empty one and any other.
-/
import Derived.Test.Qxb6600630aProg
import Derived.WalkKit
import Derived.WalkSpells
import Derived.Outline
import Derived.Deep.OwnRows
import Derived.Deep.QuietTactic
import Derived.BigQuiet
namespace Go.Proofs.Qxb6600630a
open Go.RowKit

/-- THE SLICE '.slice a n cap' OF TYPE t (elements of one cell) reads f in w: element k lies at ⟨b, off + k⟩. -/
structure Rd (w : World) (t : TypeId) (a : Option Addr) (n cap : Nat) (b off : Nat) (f : Nat → Value) : Prop where
  small : n ≤ maxLen
  nil : a = none → n = 0 ∧ cap = 0
  idx : ∀ k : Nat, k < n → ∀ v : World, (Instr.indexAt t (.slice a n cap) (.int .i64 (k : Int))).run Try.prog v = .ok (.pointer (some ⟨b, off + k, none⟩)) v
  cell : ∀ k : Nat, k < n → w.cell? ⟨b, off + k, none⟩ = some (f k)
  old : ∀ k : Nat, k < n → b < w.heap.size

theorem Rd.later {w w' : World} {t : TypeId} {a : Option Addr} {n cap b off B : Nat} {f : Nat → Value} (h : Rd w t a n cap b off f) (hb : Below B w w') (hB : n = 0 ∨ b < B) : Rd w' t a n cap b off f :=
  ⟨h.small, h.nil, h.idx, fun k hk => by rw [hb.cell (p := ⟨b, off + k, none⟩) (by rcases hB with e | e; omega; exact e)]; exact h.cell k hk, fun k hk => Nat.lt_of_lt_of_le (h.old k hk) hb.size⟩

theorem Rd.keep {w w' : World} {t : TypeId} {a : Option Addr} {n cap b off : Nat} {f : Nat → Value} (h : Rd w t a n cap b off f) (hb : Below w.heap.size w w') : Rd w' t a n cap b off f :=
  h.later hb (by rcases Nat.eq_zero_or_pos n with e | e; exact .inl e; exact .inr (h.old 0 e))

theorem idx25 (b off n cap k : Nat) (hk : k < n) (v : World) : (Instr.indexAt 25 (.slice (some ⟨b, off, none⟩) n cap) (.int .i64 (k : Int))).run Try.prog v = .ok (.pointer (some ⟨b, off + k, none⟩)) v := by
  have h : Try.prog.underlying 25 = some (.slice (Try.prog.elem 25)) := by kernel_rfl
  have h2 : (sizeOf (Try.prog.elem 25)).run Try.prog v = .ok 1 v := by kernel_rfl
  rw [run_indexAt_slice (h := h), if_pos (by omega), h2]
  simp [Result.andThen, Addr.add]

theorem idx29 (b off n cap k : Nat) (hk : k < n) (v : World) : (Instr.indexAt 29 (.slice (some ⟨b, off, none⟩) n cap) (.int .i64 (k : Int))).run Try.prog v = .ok (.pointer (some ⟨b, off + k, none⟩)) v := by
  have h : Try.prog.underlying 29 = some (.slice (Try.prog.elem 29)) := by kernel_rfl
  have h2 : (sizeOf (Try.prog.elem 29)).run Try.prog v = .ok 1 v := by kernel_rfl
  rw [run_indexAt_slice (h := h), if_pos (by omega), h2]
  simp [Result.andThen, Addr.add]

theorem idx56 (b n cap k : Nat) (hk : k < n) (v : World) : (Instr.indexAt 56 (.slice (some ⟨b, 0, none⟩) n cap) (.int .i64 (k : Int))).run Try.prog v = .ok (.pointer (some ⟨b, k * 6, none⟩)) v := by
  have h : Try.prog.underlying 56 = some (.slice (Try.prog.elem 56)) := by kernel_rfl
  have h2 : (sizeOf (Try.prog.elem 56)).run Try.prog v = .ok 6 v := by kernel_rfl
  rw [run_indexAt_slice (h := h), if_pos (by omega), h2]
  simp [Result.andThen, Addr.add]
  omega

theorem Rd.of_row25 {w : World} {b n cap : Nat} {f : Nat → Value} (h : w.rowIs b 9 n f) (hn : n ≤ maxLen) : Rd w 25 (some ⟨b, 0, none⟩) n cap b 0 f :=
  ⟨hn, (fun e => by cases e), fun k hk v => idx25 b 0 n cap k hk v, fun k hk => by rw [Nat.zero_add]; exact h.cell hk, fun k _ => h.lt⟩
theorem Rd.of_row29 {w : World} {b n cap : Nat} {f : Nat → Value} (h : w.rowIs b 4 n f) (hn : n ≤ maxLen) : Rd w 29 (some ⟨b, 0, none⟩) n cap b 0 f :=
  ⟨hn, (fun e => by cases e), fun k hk v => idx29 b 0 n cap k hk v, fun k hk => by rw [Nat.zero_add]; exact h.cell hk, fun k _ => h.lt⟩
theorem Rd.none (w : World) (t : TypeId) (b off : Nat) (f : Nat → Value) : Rd w t none 0 0 b off f :=
  ⟨Nat.zero_le _, fun _ => ⟨rfl, rfl⟩, fun k hk => by omega, fun k hk => by omega, fun k hk => by omega⟩
theorem Rd.congr {w : World} {t : TypeId} {a : Option Addr} {n cap b off : Nat} {f g : Nat → Value} (h : Rd w t a n cap b off f) (e : ∀ k, k < n → f k = g k) : Rd w t a n cap b off g :=
  ⟨h.small, h.nil, h.idx, fun k hk => by rw [h.cell k hk, e k hk], h.old⟩

theorem Try.info9 : (Try.prog.info? 9).map (fun i => (i.zero, i.size, i.bytes)) = some (some (.string ByteArray.empty), 1, 16) := by kernel_rfl
theorem Try.info4 : (Try.prog.info? 4).map (fun i => (i.zero, i.size, i.bytes)) = some (some (.bool false), 1, 1) := by kernel_rfl

set_option maxHeartbeats 400000 in
theorem strs_calls (w : World) (a : Option Addr) (n cap b off : Nat) (f : Nat → ByteArray) (h : Rd w 25 a n cap b off fun k => .string (f k)) (hn : n ≤ 65536) (hf : ∀ k, k < n → (f k).size ≤ maxLen) :
    Calls Try.prog 14 #[.slice a n cap] w fun e w' => (∃ r : Int, e = .returned (.int .i64 r) ∧ 0 ≤ r ∧ r ≤ 3000000) ∧ w' = w := by
  go_enter Try.func14, Try.ntmps14
  go_wp2
  go_loop [3, 4] (fun v i => ∃ (k : Nat) (z : Int), i = .int .i64 k ∧ v = .int .i64 z ∧ k ≤ n ∧ 0 ≤ z ∧ z ≤ 1048576) (fun _ i => n - (intOf i).toNat)
  case atStart => exact ⟨0, 16 * n, rfl, rfl, by omega, by omega, by omega⟩
  case round =>
    obtain ⟨k, z, rfl, rfl, hk, z1, z2⟩ := hrel
    by_cases hlt : k < n
    · have hc := h.cell k hlt
      have hi := h.idx k hlt
      have hz := hf k hlt
      unfold maxLen at hz
      go_wp2
      · go_ret
        exact ⟨⟨1048577, rfl, by omega, by omega⟩, rfl⟩
      · go_ret
        exact ⟨⟨_, rfl, by omega, by omega⟩, rfl⟩
      · go_round
        case rel => exact ⟨k + 1, z + (f k).size, by go_num, rfl, by omega, by omega, by omega⟩
        case measure => simp [intOf]; omega
    · go_wp2
      go_ret
      exact ⟨⟨z, rfl, by omega, by omega⟩, rfl⟩

theorem row_step {w : World} {b t n k : Nat} {f g : Nat → Value} (h : w.rowIs b t n (fun j => if j < k then f j else g j)) (v : Value) (hv : v = f k) : (w.setCell ⟨b, k, none⟩ v).rowIs b t n (fun j => if j < k + 1 then f j else g j) := by
  refine (h.set k v).congr fun j _ => ?_
  by_cases e : j = k
  · subst e; rw [if_pos rfl, if_pos (by omega), hv]
  · rw [if_neg e]
    by_cases e2 : j < k
    · rw [if_pos e2, if_pos (by omega)]
    · rw [if_neg e2, if_neg (by omega)]

set_option maxHeartbeats 400000 in
theorem copyStrs_calls (w : World) (a : Option Addr) (n cap b off : Nat) (f : Nat → ByteArray) (h : Rd w 25 a n cap b off fun k => .string (f k)) (hn : n ≤ 65536) :
    Calls Try.prog 15 #[.slice a n cap] w fun e w' => ∃ a' cap' b', e = .returned (.slice a' n cap') ∧ Rd w' 25 a' n cap' b' 0 (fun k => .string (f k)) ∧ w.heap.size ≤ b' ∧ Below w.heap.size w w' := by
  have hq := fun (w : World) => Lib.run_eql_slice_nil (P := Try.prog) w 25 9 a n cap 0 0 Try.underlying25
  cases ha : a.isNone
  · rw [ha] at hq
    clear ha
    have hmk := run_make_row' (P := Try.prog) 25 9 (.string ByteArray.empty) 16 Try.underlying25 Try.info9 rfl .i64 .i64 n (by omega) (by omega)
    go_enter Try.func15, Try.ntmps15
    go_wp2
    clear hq hmk
    go_loopw [4] (fun i wr => ∃ k : Nat, i = .int .i64 k ∧ k ≤ n ∧ wr.rowIs w.heap.size 9 n (fun j => if j < k then .string (f j) else (.string ByteArray.empty)) ∧ Below w.heap.size w wr) (fun i _ => n - (intOf i).toNat)
    case atStart => exact ⟨0, rfl, by omega, (World.rowIs_made w _ n 9).congr (fun j _ => by simp), (Below.refl _ _).alloc (Nat.le_refl _) _⟩
    case round =>
      obtain ⟨k, rfl, hk, hrow, hbel⟩ := hrel
      by_cases hlt : k < n
      · have hc : wr.cell? ⟨b, off + k, none⟩ = some (.string (f k)) := by rw [hbel.cell (p := ⟨b, off + k, none⟩) (h.old k hlt)]; exact h.cell k hlt
        have hi := h.idx k hlt
        have hi2 := idx25 w.heap.size 0 n n k hlt
        simp only [Nat.zero_add] at hi2
        have hco : wr.cell? ⟨w.heap.size, k, none⟩ = some ((.string ByteArray.empty)) := by rw [hrow.cell hlt]; simp
        have hfo := hrow.frozen k
        have hrow' := row_step hrow (.string (f k)) rfl
        have hbel' := hbel.setCell (p := ⟨w.heap.size, k, none⟩) (Nat.le_refl _) (.string (f k))
        have HR : Hid ((wr.setCell ⟨w.heap.size, k, none⟩ (.string (f k))).rowIs w.heap.size 9 n (fun j => if j < k + 1 then .string (f j) else (.string ByteArray.empty)) ∧ Below w.heap.size w (wr.setCell ⟨w.heap.size, k, none⟩ (.string (f k)))) := ⟨hrow', hbel'⟩
        clear hrow hbel hrow' hbel'
        go_wp2
        go_roundw
        case rel => exact ⟨k + 1, by go_num, by omega, HR.out.1, HR.out.2⟩
        case measure => simp [intOf]; omega
      · go_wp2
        go_ret
        exact ⟨_, n, w.heap.size, rfl, (Rd.of_row25 hrow h.small).congr (fun j hj => by rw [if_pos (by omega)]), Nat.le_refl _, hbel⟩
  · obtain rfl : a = none := by simpa using ha
    obtain ⟨rfl, rfl⟩ := h.nil rfl
    go_enter Try.func15, Try.ntmps15
    go_wp2
    go_ret
    exact ⟨none, 0, w.heap.size, rfl, Rd.none _ _ _ _ _, Nat.le_refl _, Below.refl _ _⟩

set_option maxHeartbeats 400000 in
theorem copyBools_calls (w : World) (a : Option Addr) (n cap b off : Nat) (f : Nat → Bool) (h : Rd w 29 a n cap b off fun k => .bool (f k)) (hn : n ≤ 65536) :
    Calls Try.prog 20 #[.slice a n cap] w fun e w' => ∃ a' cap' b', e = .returned (.slice a' n cap') ∧ Rd w' 29 a' n cap' b' 0 (fun k => .bool (f k)) ∧ w.heap.size ≤ b' ∧ Below w.heap.size w w' := by
  have hq := fun (w : World) => Lib.run_eql_slice_nil (P := Try.prog) w 29 4 a n cap 0 0 Try.underlying29
  cases ha : a.isNone
  · rw [ha] at hq
    clear ha
    have hmk := run_make_row' (P := Try.prog) 29 4 (.bool false) 1 Try.underlying29 Try.info4 rfl .i64 .i64 n (by omega) (by omega)
    go_enter Try.func20, Try.ntmps20
    go_wp2
    clear hq hmk
    go_loopw [4] (fun i wr => ∃ k : Nat, i = .int .i64 k ∧ k ≤ n ∧ wr.rowIs w.heap.size 4 n (fun j => if j < k then .bool (f j) else (.bool false)) ∧ Below w.heap.size w wr) (fun i _ => n - (intOf i).toNat)
    case atStart => exact ⟨0, rfl, by omega, (World.rowIs_made w _ n 4).congr (fun j _ => by simp), (Below.refl _ _).alloc (Nat.le_refl _) _⟩
    case round =>
      obtain ⟨k, rfl, hk, hrow, hbel⟩ := hrel
      by_cases hlt : k < n
      · have hc : wr.cell? ⟨b, off + k, none⟩ = some (.bool (f k)) := by rw [hbel.cell (p := ⟨b, off + k, none⟩) (h.old k hlt)]; exact h.cell k hlt
        have hi := h.idx k hlt
        have hi2 := idx29 w.heap.size 0 n n k hlt
        simp only [Nat.zero_add] at hi2
        have hco : wr.cell? ⟨w.heap.size, k, none⟩ = some ((.bool false)) := by rw [hrow.cell hlt]; simp
        have hfo := hrow.frozen k
        have hrow' := row_step hrow (.bool (f k)) rfl
        have hbel' := hbel.setCell (p := ⟨w.heap.size, k, none⟩) (Nat.le_refl _) (.bool (f k))
        have HR : Hid ((wr.setCell ⟨w.heap.size, k, none⟩ (.bool (f k))).rowIs w.heap.size 4 n (fun j => if j < k + 1 then .bool (f j) else (.bool false)) ∧ Below w.heap.size w (wr.setCell ⟨w.heap.size, k, none⟩ (.bool (f k)))) := ⟨hrow', hbel'⟩
        clear hrow hbel hrow' hbel'
        go_wp2
        go_roundw
        case rel => exact ⟨k + 1, by go_num, by omega, HR.out.1, HR.out.2⟩
        case measure => simp [intOf]; omega
      · go_wp2
        go_ret
        exact ⟨_, n, w.heap.size, rfl, (Rd.of_row29 hrow h.small).congr (fun j hj => by rw [if_pos (by omega)]), Nat.le_refl _, hbel⟩
  · obtain rfl : a = none := by simpa using ha
    obtain ⟨rfl, rfl⟩ := h.nil rfl
    go_enter Try.func20, Try.ntmps20
    go_wp2
    go_ret
    exact ⟨none, 0, w.heap.size, rfl, Rd.none _ _ _ _ _, Nat.le_refl _, Below.refl _ _⟩

end Go.Proofs.Qxb6600630a
