/-
  A slice of steps that is read; its size; its copy.
-/
import Derived.Test.Qxb6600971aShims
import Derived.Deep.QuietTactic
import Derived.BigQuiet
namespace Go.Proofs.Qxb6600971a
open Go.RowKit Go.Deep

/-- cell i of a row of steps -/
def scell (f : Nat → St) (i : Nat) : Value :=
  if i % 5 = 0 then .string (f (i / 5)).id else if i % 5 = 1 then .int .u64 (f (i / 5)).seq else if i % 5 = 2 then .int .i64 (f (i / 5)).n else if i % 5 = 3 then .int .u64 (f (i / 5)).first else .int .i64 (f (i / 5)).now

theorem scell0 (f : Nat → St) (k : Nat) : scell f (k * 5) = .string (f k).id := by
  unfold scell; rw [if_pos (by omega), show k * 5 / 5 = k by omega]
theorem scell1 (f : Nat → St) (k : Nat) : scell f (k * 5 + 1) = .int .u64 (f k).seq := by
  unfold scell; rw [if_neg (by omega), if_pos (by omega), show (k * 5 + 1) / 5 = k by omega]
theorem scell2 (f : Nat → St) (k : Nat) : scell f (k * 5 + 2) = .int .i64 (f k).n := by
  unfold scell; rw [if_neg (by omega), if_neg (by omega), if_pos (by omega), show (k * 5 + 2) / 5 = k by omega]
theorem scell3 (f : Nat → St) (k : Nat) : scell f (k * 5 + 3) = .int .u64 (f k).first := by
  unfold scell; rw [if_neg (by omega), if_neg (by omega), if_neg (by omega), if_pos (by omega), show (k * 5 + 3) / 5 = k by omega]
theorem scell4 (f : Nat → St) (k : Nat) : scell f (k * 5 + 4) = .int .i64 (f k).now := by
  unfold scell; rw [if_neg (by omega), if_neg (by omega), if_neg (by omega), if_neg (by omega), show (k * 5 + 4) / 5 = k by omega]
theorem scell_congr {f g : Nat → St} {i : Nat} (h : f (i / 5) = g (i / 5)) : scell f i = scell g i := by unfold scell; rw [h]

/-- THE SLICE '.slice a n cap' of steps reads f in w: step k lies at ⟨b, off + k * 5⟩. -/
structure RdS (w : World) (a : Option Addr) (n cap : Nat) (b off : Nat) (f : Nat → St) : Prop where
  small : n ≤ maxLen
  nil : a = none → n = 0 ∧ cap = 0
  idx : ∀ k : Nat, k < n → ∀ v : World, (Instr.indexAt 22 (.slice a n cap) (.int .i64 (k : Int))).run Try.prog v = .ok (.pointer (some ⟨b, off + k * 5, none⟩)) v
  cell : ∀ i : Nat, i < n * 5 → w.cell? ⟨b, off + i, none⟩ = some (scell f i)
  ids : ∀ k : Nat, k < n → (f k).id.size ≤ maxLen
  old : ∀ k : Nat, k < n → b < w.heap.size

theorem RdS.cells {w : World} {a : Option Addr} {n cap b off : Nat} {f : Nat → St} (h : RdS w a n cap b off f) {k : Nat} (hk : k < n) :
    w.cell? ⟨b, off + k * 5, none⟩ = some (.string (f k).id) ∧ w.cell? ⟨b, off + k * 5 + 1, none⟩ = some (.int .u64 (f k).seq) ∧ w.cell? ⟨b, off + k * 5 + 2, none⟩ = some (.int .i64 (f k).n) ∧
    w.cell? ⟨b, off + k * 5 + 3, none⟩ = some (.int .u64 (f k).first) ∧ w.cell? ⟨b, off + k * 5 + 4, none⟩ = some (.int .i64 (f k).now) := by
  refine ⟨?_, ?_, ?_, ?_, ?_⟩
  · rw [h.cell _ (by omega), scell0]
  · rw [Nat.add_assoc, h.cell _ (by omega), scell1]
  · rw [Nat.add_assoc, h.cell _ (by omega), scell2]
  · rw [Nat.add_assoc, h.cell _ (by omega), scell3]
  · rw [Nat.add_assoc, h.cell _ (by omega), scell4]

theorem RdS.later {w w' : World} {a : Option Addr} {n cap b off B : Nat} {f : Nat → St} (h : RdS w a n cap b off f) (hb : Below B w w') (hB : n = 0 ∨ b < B) : RdS w' a n cap b off f :=
  ⟨h.small, h.nil, h.idx, fun i hi => by rw [hb.cell (p := ⟨b, off + i, none⟩) (by rcases hB with e | e; omega; exact e)]; exact h.cell i hi, h.ids, fun k hk => Nat.lt_of_lt_of_le (h.old k hk) hb.size⟩
theorem RdS.keep {w w' : World} {a : Option Addr} {n cap b off : Nat} {f : Nat → St} (h : RdS w a n cap b off f) (hb : Below w.heap.size w w') : RdS w' a n cap b off f :=
  h.later hb (by rcases Nat.eq_zero_or_pos n with e | e; exact .inl e; exact .inr (h.old 0 e))

theorem idx22 (b off n cap k : Nat) (hk : k < n) (v : World) : (Instr.indexAt 22 (.slice (some ⟨b, off, none⟩) n cap) (.int .i64 (k : Int))).run Try.prog v = .ok (.pointer (some ⟨b, off + k * 5, none⟩)) v := by
  have h : Try.prog.underlying 22 = some (.slice (Try.prog.elem 22)) := by kernel_rfl
  have h2 : (sizeOf (Try.prog.elem 22)).run Try.prog v = .ok 5 v := by kernel_rfl
  rw [run_indexAt_slice (h := h), if_pos (by omega), h2]
  simp [Result.andThen, Addr.add]

set_option maxHeartbeats 400000 in
theorem stepsBytes_calls (w : World) (a : Option Addr) (n cap b off : Nat) (f : Nat → St) (h : RdS w a n cap b off f) :
    Calls Try.prog 7 #[.slice a n cap] w fun e w' => (e = .returned (.tuple #[.int .i64 0, .bool false]) ∨ n ≤ 4096 ∧ ∃ r : Int, e = .returned (.tuple #[.int .i64 r, .bool true]) ∧ 0 ≤ r ∧ r ≤ 1048576) ∧ w' = w := by
  have hsm := h.small
  by_cases hbig : n ≤ 4096
  · go_enter Try.func7, Try.ntmps7
    go_wp2
    go_loop [4, 15] (fun v i => ∃ (k : Nat) (z : Int), i = .int .i64 k ∧ v = .int .i64 z ∧ k ≤ n ∧ 0 ≤ z ∧ z ≤ 1048576) (fun _ i => n - (intOf i).toNat)
    case atStart => exact ⟨0, n * 48, rfl, rfl, by omega, by omega, by omega⟩
    case round =>
      obtain ⟨k, z, rfl, rfl, hk, z1, z2⟩ := hrel
      by_cases hlt : k < n
      · have hc := (h.cells hlt).1
        have hi := h.idx k hlt
        have hz := h.ids k hlt
        unfold maxLen at hz
        go_wp2
        · refine bodyPost_ret (v := .tuple #[.int .i64 0, .bool false]) (by simp [results, Try.results7, go_sem]) rfl ⟨.inl rfl, rfl⟩
        · go_round
          case rel => exact ⟨k + 1, z + (f k).id.size, by go_num, rfl, by omega, by omega, by omega⟩
          case measure => simp [intOf]; omega
      · go_wp2
        refine bodyPost_ret (v := .tuple #[.int .i64 z, .bool true]) (by simp [results, Try.results7, go_sem]) rfl ⟨.inr ⟨z, rfl, z1, z2⟩, rfl⟩
  · unfold maxLen at hsm
    go_enter Try.func7, Try.ntmps7
    go_wp2
    refine bodyPost_ret (v := .tuple #[.int .i64 0, .bool false]) (by simp [results, Try.results7, go_sem]) rfl ⟨.inl rfl, rfl⟩

set_option maxHeartbeats 400000 in
theorem zz6_calls (w : World) (a : Option Addr) (n cap b off : Nat) (f : Nat → St) (h : RdS w a n cap b off f) :
    Calls Try.prog 6 #[.slice a n cap] w fun e w' => (e = .returned (.bool false) ∨ e = .returned (.bool true)) ∧ w' = w := by
  have hsm := h.small
  unfold maxLen at hsm
  by_cases hbig : n ≤ 1048576
  · go_enter Try.func6, Try.ntmps6
    go_wp2
    go_loop [3, 4] (fun v i => ∃ (k : Nat) (z : Int), i = .int .i64 k ∧ v = .int .i64 z ∧ k ≤ n ∧ 0 ≤ z ∧ z ≤ 1048576) (fun _ i => n - (intOf i).toNat)
    case atStart => exact ⟨0, n, rfl, rfl, by omega, by omega, by omega⟩
    case round =>
      obtain ⟨k, z, rfl, rfl, hk, z1, z2⟩ := hrel
      by_cases hlt : k < n
      · have hc := (h.cells hlt).1
        have hi := h.idx k hlt
        have hz := h.ids k hlt
        unfold maxLen at hz
        go_wp2
        · go_ret
          exact ⟨.inl rfl, rfl⟩
        · go_ret
          exact ⟨.inl rfl, rfl⟩
        · go_round
          case rel => exact ⟨k + 1, z + (f k).id.size, by go_num, rfl, by omega, by omega, by omega⟩
          case measure => simp [intOf]; omega
      · go_wp2
        go_ret
        exact ⟨.inr rfl, rfl⟩
  · go_enter Try.func6, Try.ntmps6
    go_wp2
    go_ret
    exact ⟨.inl rfl, rfl⟩

set_option maxHeartbeats 400000 in
theorem zz20_calls (w : World) (a : Option Addr) (n cap b off : Nat) (f : Nat → St) (s : ByteArray) (h : RdS w a n cap b off f) (hs : s.size ≤ maxLen) :
    Calls Try.prog 20 #[.slice a n cap, .string s] w fun e w' => (e = .returned (.bool false) ∨ e = .returned (.bool true)) ∧ w' = w := by
  have hsm := h.small
  unfold maxLen at hsm hs
  by_cases hbig : n ≤ 1048576
  · go_enter Try.func20, Try.ntmps20
    go_wp2
    go_loop [5, 6] (fun v i => ∃ (k : Nat) (z : Int), i = .int .i64 k ∧ v = .int .i64 z ∧ k ≤ n ∧ 0 ≤ z ∧ z ≤ 1048576) (fun _ i => n - (intOf i).toNat)
    case atStart => exact ⟨0, n, rfl, rfl, by omega, by omega, by omega⟩
    case round =>
      obtain ⟨k, z, rfl, rfl, hk, z1, z2⟩ := hrel
      by_cases hlt : k < n
      · have hc := (h.cells hlt).1
        have hi := h.idx k hlt
        have hz := h.ids k hlt
        unfold maxLen at hz
        go_wp2
        · go_ret
          exact ⟨.inl rfl, rfl⟩
        · go_ret
          exact ⟨.inl rfl, rfl⟩
        · go_round
          case rel => exact ⟨k + 1, z + (f k).id.size, by go_num, rfl, by omega, by omega, by omega⟩
          case measure => simp [intOf]; omega
      · go_wp2
        · go_ret
          exact ⟨.inl rfl, rfl⟩
        · go_ret
          exact ⟨.inl rfl, rfl⟩
        · go_ret
          exact ⟨.inr rfl, rfl⟩
  · go_enter Try.func20, Try.ntmps20
    go_wp2
    go_ret
    exact ⟨.inl rfl, rfl⟩

/-- the zero value's cells -/
def szero : Nat → Value := scell (fun _ => ⟨ByteArray.empty, 0, 0, 0, 0⟩)

theorem Try.zero37 : (Try.prog.info? 37).map (fun i => (i.zero, i.size, i.bytes)) = some (some (.agg #[.string ByteArray.empty, .int .u64 0, .int .i64 0, .int .u64 0, .int .i64 0]), 5, 48) := by kernel_rfl

theorem run_makeSteps (n : Nat) (hn : n ≤ 65536) (w : World) : (Instr.makeSlice 22 (.int .i64 (n : Int)) (.int .i64 (n : Int))).run Try.prog w =
    .ok (.slice (some ⟨w.heap.size, 0, none⟩) n n) (w.alloc (.cells (madeCells #[.string ByteArray.empty, .int .u64 0, .int .i64 0, .int .u64 0, .int .i64 0] (n * 5)) 37)) := by
  obtain ⟨i, hi, hzz⟩ := Option.map_eq_some_iff.1 Try.zero37
  simp only [Prod.mk.injEq] at hzz
  obtain ⟨h1, h2, h3⟩ := hzz
  have := run_make w 22 37 i _ Try.underlying22 hi h1 .i64 .i64 (n : Int) (n : Int) (by omega) (by omega) (by rw [h3]; omega) (by omega)
  rw [h2] at this
  simpa [Value.cells] using this

theorem rowIs_steps (w : World) (n : Nat) : (w.alloc (.cells (madeCells #[.string ByteArray.empty, .int .u64 0, .int .i64 0, .int .u64 0, .int .i64 0] (n * 5)) 37)).rowIs w.heap.size 37 (n * 5) szero := by
  have h := World.rowIs_alloc w (madeCells #[.string ByteArray.empty, .int .u64 0, .int .i64 0, .int .u64 0, .int .i64 0] (n * 5)) 37 szero ?_
  · rw [size_madeCells] at h; exact h
  · intro i hi
    rw [size_madeCells] at hi
    have hm : i % 5 = 0 ∨ i % 5 = 1 ∨ i % 5 = 2 ∨ i % 5 = 3 ∨ i % 5 = 4 := by omega
    simp only [madeCells, Array.getElem?_map, Array.getElem?_range, hi, if_true, Option.map_some]
    unfold szero scell
    rcases hm with e | e | e | e | e <;> simp [e]

theorem steps_step {wr : World} {B n k : Nat} {f : Nat → St} (h : wr.rowIs B 37 (n * 5) (fun j => if j < k * 5 then scell f j else szero j)) :
    (((((wr.setCell ⟨B, k * 5, none⟩ (.string (f k).id)).setCell ⟨B, k * 5 + 1, none⟩ (.int .u64 (f k).seq)).setCell ⟨B, k * 5 + 2, none⟩ (.int .i64 (f k).n)).setCell ⟨B, k * 5 + 3, none⟩ (.int .u64 (f k).first)).setCell ⟨B, k * 5 + 4, none⟩ (.int .i64 (f k).now)).rowIs B 37 (n * 5) (fun j => if j < (k + 1) * 5 then scell f j else szero j) := by
  refine (((((h.set (k * 5) _).set (k * 5 + 1) _).set (k * 5 + 2) _).set (k * 5 + 3) _).set (k * 5 + 4) _).congr fun j _ => ?_
  by_cases e4 : j = k * 5 + 4
  · subst e4; rw [if_pos rfl, if_pos (by omega), scell4]
  rw [if_neg e4]
  by_cases e3 : j = k * 5 + 3
  · subst e3; rw [if_pos rfl, if_pos (by omega), scell3]
  rw [if_neg e3]
  by_cases e2 : j = k * 5 + 2
  · subst e2; rw [if_pos rfl, if_pos (by omega), scell2]
  rw [if_neg e2]
  by_cases e1 : j = k * 5 + 1
  · subst e1; rw [if_pos rfl, if_pos (by omega), scell1]
  rw [if_neg e1]
  by_cases e0 : j = k * 5
  · subst e0; rw [if_pos rfl, if_pos (by omega), scell0]
  rw [if_neg e0]
  by_cases g : j < k * 5
  · rw [if_pos g, if_pos (by omega)]
  · rw [if_neg g, if_neg (by omega)]

theorem RdS.of_row {w : World} {b n cap : Nat} {f : Nat → St} (h : w.rowIs b 37 (n * 5) (scell f)) (hn : n ≤ maxLen) (hf : ∀ k, k < n → (f k).id.size ≤ maxLen) : RdS w (some ⟨b, 0, none⟩) n cap b 0 f :=
  ⟨hn, (fun e => by cases e), fun k hk v => idx22 b 0 n cap k hk v, fun k hk => by rw [Nat.zero_add]; exact h.cell hk, hf, fun k _ => h.lt⟩
theorem RdS.none (w : World) (b off : Nat) (f : Nat → St) : RdS w none 0 0 b off f :=
  ⟨Nat.zero_le _, fun _ => ⟨rfl, rfl⟩, fun k hk => by omega, fun k hk => by omega, fun k hk => by omega, fun k hk => by omega⟩

set_option maxHeartbeats 1000000 in
theorem cloneSteps_calls (w : World) (a : Option Addr) (n cap b off : Nat) (f : Nat → St) (h : RdS w a n cap b off f) (hn : n ≤ 65536) :
    Calls Try.prog 8 #[.slice a n cap] w fun e w' => ∃ a' cap' b', e = .returned (.slice a' n cap') ∧ RdS w' a' n cap' b' 0 f ∧ w.heap.size ≤ b' ∧ Below w.heap.size w w' := by
  have hq := fun (w : World) => Lib.run_eql_slice_nil (P := Try.prog) w 22 37 a n cap 0 0 Try.underlying22
  cases ha : a.isNone
  · rw [ha] at hq
    clear ha
    have hmk := run_makeSteps n hn
    go_enter Try.func8, Try.ntmps8
    go_wp2
    clear hq hmk
    go_loopw [12] (fun i wr => ∃ k : Nat, i = .int .i64 k ∧ k ≤ n ∧ wr.rowIs w.heap.size 37 (n * 5) (fun j => if j < k * 5 then scell f j else szero j) ∧ Below w.heap.size w wr) (fun i _ => n - (intOf i).toNat)
    case atStart => exact ⟨0, rfl, by omega, (rowIs_steps w n).congr (fun j _ => by simp), (Below.refl _ _).alloc (Nat.le_refl _) _⟩
    case round =>
      obtain ⟨k, rfl, hk, hrow, hbel⟩ := hrel
      by_cases hlt : k < n
      · obtain ⟨q0, q1, q2, q3, q4⟩ := h.cells hlt
        have hbo := h.old k hlt
        rw [← hbel.cell hbo] at q0 q1 q2 q3 q4
        have hi := h.idx k hlt
        have hi2 := idx22 w.heap.size 0 n n k hlt
        simp only [Nat.zero_add] at hi2
        have o0 := hrow.cell (i := k * 5) (by omega)
        have o1 := hrow.cell (i := k * 5 + 1) (by omega)
        have o2 := hrow.cell (i := k * 5 + 2) (by omega)
        have o3 := hrow.cell (i := k * 5 + 3) (by omega)
        have o4 := hrow.cell (i := k * 5 + 4) (by omega)
        have hfo := hrow.frozen
        have HR : Hid (wr.rowIs w.heap.size 37 (n * 5) (fun j => if j < k * 5 then scell f j else szero j) ∧ Below w.heap.size w wr) := ⟨hrow, hbel⟩
        clear hrow hbel
        go_wp2
        go_roundw
        case rel => exact ⟨k + 1, by go_num, by omega, steps_step HR.out.1, ((((HR.out.2.setCell (p := ⟨w.heap.size, _, none⟩) (Nat.le_refl _) _).setCell (p := ⟨w.heap.size, _, none⟩) (Nat.le_refl _) _).setCell (p := ⟨w.heap.size, _, none⟩) (Nat.le_refl _) _).setCell (p := ⟨w.heap.size, _, none⟩) (Nat.le_refl _) _).setCell (p := ⟨w.heap.size, _, none⟩) (Nat.le_refl _) _⟩
        case measure => simp [intOf]; omega
      · go_wp2
        go_ret
        exact ⟨_, n, w.heap.size, rfl, RdS.of_row (hrow.congr (fun j hj => by rw [if_pos (by omega)])) h.small h.ids, Nat.le_refl _, hbel⟩
  · obtain rfl : a = none := by simpa using ha
    obtain ⟨rfl, rfl⟩ := h.nil rfl
    go_enter Try.func8, Try.ntmps8
    go_wp2
    go_ret
    exact ⟨none, 0, w.heap.size, rfl, RdS.none _ _ _ _, Nat.le_refl _, Below.refl _ _⟩
end Go.Proofs.Qxb6600971a
