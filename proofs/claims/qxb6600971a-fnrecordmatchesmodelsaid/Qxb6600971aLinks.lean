/-
  'push' and 'unlink', walked.
-/
import Derived.Test.Qxb6600971aHeap
import Derived.RegionTactic
import Derived.ChangeAlike
import Derived.BigRegion
import Derived.Deep.QuietTactic
import Derived.BigQuiet
namespace Go.Proofs.Qxb6600971a
open Go.RowKit Go.Deep

set_option maxHeartbeats 1000000 in
theorem push_nil (w : World) (r : Nat) (mo : Option Nat) (now peak : Int) (c : Cl) (pv : Value) (hr : Rq w r mo (.pointer none) (.pointer none) now peak) (hc : Node w c pv (.pointer none)) (hpv : ∃ a, pv = .pointer a) :
    Calls Try.prog 34 #[ptr r, ptr c.blk] w fun e w' => e = .returned (.tuple #[]) ∧ w' = ((w.setCell ⟨c.blk, 5, none⟩ (.pointer none)).setCell ⟨r, 1, none⟩ (ptr c.blk)).setCell ⟨r, 2, none⟩ (ptr c.blk) := by
  obtain ⟨r0, r1, r2, r3, r4, rf⟩ := rq_cells hr
  obtain ⟨c0, c1, c2, c3, c4, c5, c6, cf⟩ := node_cells hc
  have hne := node_rq_ne hc hr
  have hne' : r ≠ c.blk := fun e => hne e.symm
  obtain ⟨pa, rfl⟩ := hpv
  clear hr hc
  unfold ptr
  go_enter Try.func34, Try.ntmps34
  go_wp2
  go_end0
  exact ⟨rfl, rfl⟩

set_option maxHeartbeats 1000000 in
theorem push_some (w : World) (r : Nat) (mo : Option Nat) (hd : Value) (now peak : Int) (c a : Cl) (pv pa na : Value) (hr : Rq w r mo hd (ptr a.blk) now peak) (hc : Node w c pv (.pointer none)) (ha : Node w a pa na) (hca : c.blk ≠ a.blk) (hpv : ∃ a, pv = .pointer a) (hna : ∃ a, na = .pointer a) :
    Calls Try.prog 34 #[ptr r, ptr c.blk] w fun e w' => e = .returned (.tuple #[]) ∧ w' = ((w.setCell ⟨c.blk, 5, none⟩ (ptr a.blk)).setCell ⟨a.blk, 6, none⟩ (ptr c.blk)).setCell ⟨r, 2, none⟩ (ptr c.blk) := by
  obtain ⟨r0, r1, r2, r3, r4, rf⟩ := rq_cells hr
  obtain ⟨c0, c1, c2, c3, c4, c5, c6, cf⟩ := node_cells hc
  obtain ⟨a0, a1, a2, a3, a4, a5, a6, af⟩ := node_cells ha
  have hne := node_rq_ne hc hr
  have hne' : r ≠ c.blk := fun e => hne e.symm
  have hna1 := node_rq_ne ha hr
  have hna2 : r ≠ a.blk := fun e => hna1 e.symm
  have hca2 : a.blk ≠ c.blk := fun e => hca e.symm
  obtain ⟨pa', rfl⟩ := hpv
  obtain ⟨na', rfl⟩ := hna
  clear hr hc ha
  unfold ptr at r2 ⊢
  go_enter Try.func34, Try.ntmps34
  go_wp2
  go_end0
  exact ⟨rfl, rfl⟩

set_option maxHeartbeats 1000000 in
theorem unlink_only (w : World) (r : Nat) (mo : Option Nat) (now peak : Int) (c : Cl) (hr : Rq w r mo (ptr c.blk) (ptr c.blk) now peak) (hc : Node w c (.pointer none) (.pointer none)) :
    Calls Try.prog 33 #[ptr r, ptr c.blk] w fun e w' => e = .returned (.tuple #[]) ∧ ∃ d, w' = ((((w.setCell ⟨r, 1, none⟩ (.pointer none)).setCell ⟨r, 2, none⟩ (.pointer none)).setCell ⟨c.blk, 5, none⟩ (.pointer none)).setCell ⟨c.blk, 6, none⟩ (.pointer none)).drewN d := by
  obtain ⟨r0, r1, r2, r3, r4, rf⟩ := rq_cells hr
  obtain ⟨c0, c1, c2, c3, c4, c5, c6, cf⟩ := node_cells hc
  have hne := node_rq_ne hc hr
  have hne' : r ≠ c.blk := fun e => hne e.symm
  clear hr hc
  unfold ptr at r1 r2 ⊢
  go_enter Try.func33, Try.ntmps33
  go_wp2
  go_end0
  exact ⟨rfl, 0, rfl⟩

set_option maxHeartbeats 1000000 in
theorem unlink_first (w : World) (r : Nat) (mo : Option Nat) (tl : Value) (now peak : Int) (c z : Cl) (nz : Value) (hr : Rq w r mo (ptr c.blk) tl now peak) (hc : Node w c (.pointer none) (ptr z.blk)) (hz : Node w z (ptr c.blk) nz) (hcz : c.blk ≠ z.blk) :
    Calls Try.prog 33 #[ptr r, ptr c.blk] w fun e w' => e = .returned (.tuple #[]) ∧ ∃ d, w' = ((((w.setCell ⟨r, 1, none⟩ (ptr z.blk)).setCell ⟨z.blk, 5, none⟩ (.pointer none)).setCell ⟨c.blk, 5, none⟩ (.pointer none)).setCell ⟨c.blk, 6, none⟩ (.pointer none)).drewN d := by
  obtain ⟨r0, r1, r2, r3, r4, rf⟩ := rq_cells hr
  obtain ⟨c0, c1, c2, c3, c4, c5, c6, cf⟩ := node_cells hc
  obtain ⟨z0, z1, z2, z3, z4, z5, z6, zf⟩ := node_cells hz
  have hne := node_rq_ne hc hr
  have hne' : r ≠ c.blk := fun e => hne e.symm
  have hz1 := node_rq_ne hz hr
  have hz2 : r ≠ z.blk := fun e => hz1 e.symm
  have hcz2 : z.blk ≠ c.blk := fun e => hcz e.symm
  clear hr hc hz
  unfold ptr at r1 c6 z5 ⊢
  go_enter Try.func33, Try.ntmps33
  go_wp2
  go_region
  go_wp2
  go_end0
  exact ⟨rfl, 1, rfl⟩

set_option maxHeartbeats 1000000 in
theorem unlink_last (w : World) (r : Nat) (mo : Option Nat) (hd : Value) (now peak : Int) (c a : Cl) (pa : Value) (hr : Rq w r mo hd (ptr c.blk) now peak) (hc : Node w c (ptr a.blk) (.pointer none)) (ha : Node w a pa (ptr c.blk)) (hca : c.blk ≠ a.blk) :
    Calls Try.prog 33 #[ptr r, ptr c.blk] w fun e w' => e = .returned (.tuple #[]) ∧ ∃ d, w' = ((((w.setCell ⟨a.blk, 6, none⟩ (.pointer none)).setCell ⟨r, 2, none⟩ (ptr a.blk)).setCell ⟨c.blk, 5, none⟩ (.pointer none)).setCell ⟨c.blk, 6, none⟩ (.pointer none)).drewN d := by
  obtain ⟨r0, r1, r2, r3, r4, rf⟩ := rq_cells hr
  obtain ⟨c0, c1, c2, c3, c4, c5, c6, cf⟩ := node_cells hc
  obtain ⟨a0, a1, a2, a3, a4, a5, a6, af⟩ := node_cells ha
  have hne := node_rq_ne hc hr
  have hne' : r ≠ c.blk := fun e => hne e.symm
  have ha1 := node_rq_ne ha hr
  have ha2 : r ≠ a.blk := fun e => ha1 e.symm
  have hca2 : a.blk ≠ c.blk := fun e => hca e.symm
  clear hr hc ha
  unfold ptr at r2 c5 a6 ⊢
  go_enter Try.func33, Try.ntmps33
  go_wp2
  go_region
  go_wp2
  go_end0
  exact ⟨rfl, 1, rfl⟩

set_option maxHeartbeats 1000000 in
theorem unlink_mid (w : World) (r : Nat) (c a z : Cl) (pa nz : Value) (hc : Node w c (ptr a.blk) (ptr z.blk)) (ha : Node w a pa (ptr c.blk)) (hz : Node w z (ptr c.blk) nz)
    (hca : c.blk ≠ a.blk) (hcz : c.blk ≠ z.blk) (haz : a.blk ≠ z.blk) :
    Calls Try.prog 33 #[ptr r, ptr c.blk] w fun e w' => e = .returned (.tuple #[]) ∧ ∃ d, w' = ((((w.setCell ⟨a.blk, 6, none⟩ (ptr z.blk)).setCell ⟨z.blk, 5, none⟩ (ptr a.blk)).setCell ⟨c.blk, 5, none⟩ (.pointer none)).setCell ⟨c.blk, 6, none⟩ (.pointer none)).drewN d := by
  obtain ⟨c0, c1, c2, c3, c4, c5, c6, cf⟩ := node_cells hc
  obtain ⟨a0, a1, a2, a3, a4, a5, a6, af⟩ := node_cells ha
  obtain ⟨z0, z1, z2, z3, z4, z5, z6, zf⟩ := node_cells hz
  have hca2 : a.blk ≠ c.blk := fun e => hca e.symm
  have hcz2 : z.blk ≠ c.blk := fun e => hcz e.symm
  have haz2 : z.blk ≠ a.blk := fun e => haz e.symm
  clear hc ha hz
  unfold ptr at c5 c6 a6 z5 ⊢
  go_enter Try.func33, Try.ntmps33
  go_wp2
  go_region
  go_wp2
  go_region
  go_wp2
  go_end0
  exact ⟨rfl, 2, rfl⟩

/-- w' is w but for the blocks of S and new ones -/
structure Turn (S : Nat → Prop) (w w' : World) : Prop where
  os : w'.os = w.os
  tape : w'.tape = w.tape
  output : w'.output = w.output
  size : w.heap.size ≤ w'.heap.size
  block : ∀ k, k < w.heap.size → ¬ S k → w'.heap[k]? = w.heap[k]?

theorem Turn.refl (S : Nat → Prop) (w : World) : Turn S w w := ⟨rfl, rfl, rfl, Nat.le_refl _, fun _ _ _ => rfl⟩
theorem Turn.trans {S : Nat → Prop} {a b c : World} (h : Turn S a b) (k : Turn S b c) : Turn S a c :=
  ⟨k.os.trans h.os, k.tape.trans h.tape, k.output.trans h.output, Nat.le_trans h.size k.size, fun i hi hs => (k.block i (Nat.lt_of_lt_of_le hi h.size) hs).trans (h.block i hi hs)⟩
theorem Turn.mono {S S' : Nat → Prop} {a b : World} (h : Turn S a b) (hs : ∀ k, k < a.heap.size → S k → S' k) : Turn S' a b := ⟨h.os, h.tape, h.output, h.size, fun k hk hn => h.block k hk (fun g => hn (hs k hk g))⟩
theorem Turn.setCell {S : Nat → Prop} {a w : World} (h : Turn S a w) {p : Addr} (hp : S p.block) (v : Value) : Turn S a (w.setCell p v) :=
  h.trans ⟨rfl, rfl, rfl, by rw [nblk_setCell]; exact Nat.le_refl _, fun k _ hn => blk_setCell_other _ _ _ _ (fun e => hn (by rw [e]; exact hp))⟩
theorem Turn.alloc {S : Nat → Prop} {a w : World} (h : Turn S a w) (o : Obj) : Turn S a (w.alloc o) :=
  h.trans ⟨rfl, rfl, rfl, by rw [nblk_alloc]; omega, fun k hk _ => blk_alloc_lt _ _ _ hk⟩
theorem Turn.draws {S : Nat → Prop} {a w : World} (h : Turn S a w) (d : Nat) : Turn S a (w.drewN d) := ⟨h.os, h.tape, h.output, h.size, h.block⟩
theorem Turn.below {S : Nat → Prop} {a w : World} (h : Turn S a w) {B : Nat} (hB : B ≤ a.heap.size) (hs : ∀ k, k < B → ¬ S k) : Below B a w :=
  ⟨h.os, h.tape, h.output, h.size, fun k hk => h.block k (by omega) (hs k hk)⟩
theorem Turn.of_below {S : Nat → Prop} {a w : World} (h : Below a.heap.size a w) : Turn S a w := ⟨h.os, h.tape, h.output, h.size, fun k hk _ => h.block k hk⟩

def nil : Value := .pointer none

/-- the log's list of clients is L -/
structure LS (w : World) (r : Nat) (mo : Option Nat) (L : List Cl) (now peak : Int) : Prop where
  rq : Rq w r mo (hdv nil L) (lastv nil L) now peak
  seg : Seg w nil L nil
  nd : (L.map Cl.blk).Nodup

/-- the blocks of the list, and the log's own -/
def Mine (r : Nat) (L : List Cl) (k : Nat) : Prop := k = r ∨ ∃ x ∈ L, k = x.blk

theorem seg_node {w : World} : ∀ {pv : Value} {L : List Cl} {nx : Value}, Seg w pv L nx → ∀ c ∈ L, ∃ pv nx, Node w c pv nx
  | _, [], _, _, c, hc => by cases hc
  | _, d :: L, _, h, c, hc => by
    rcases List.mem_cons.1 hc with rfl | hc
    · exact ⟨_, _, h.1⟩
    · exact seg_node h.2 c hc

theorem LS.ne {w : World} {r : Nat} {mo : Option Nat} {L : List Cl} {now peak : Int} (h : LS w r mo L now peak) : ∀ c ∈ L, c.blk ≠ r := by
  intro c hc
  obtain ⟨pv, nx, hn⟩ := seg_node h.seg c hc
  exact node_rq_ne hn h.rq

theorem ls_of_blocks {w w' : World} {r : Nat} {mo : Option Nat} {L : List Cl} {now peak : Int} (h : LS w r mo L now peak) (e : ∀ k, Mine r L k → w'.heap[k]? = w.heap[k]?) : LS w' r mo L now peak :=
  ⟨h.rq.of_block (e r (.inl rfl)), seg_of_blocks h.seg (fun c hc => e c.blk (.inr ⟨c, hc, rfl⟩)), h.nd⟩

theorem LS.lt {w : World} {r : Nat} {mo : Option Nat} {L : List Cl} {now peak : Int} (h : LS w r mo L now peak) : ∀ k, Mine r L k → k < w.heap.size := by
  rintro k (rfl | ⟨x, hx, rfl⟩)
  · exact h.rq.lt
  · obtain ⟨pv, nx, hn⟩ := seg_node h.seg x hx
    exact hn.lt

theorem LS.keep {w w' : World} {r : Nat} {mo : Option Nat} {L : List Cl} {now peak : Int} (h : LS w r mo L now peak) (hb : Below w.heap.size w w') : LS w' r mo L now peak :=
  ls_of_blocks h (fun k hk => hb.block k (h.lt k hk))

theorem nd_apart {A Z : List Cl} {c : Cl} (h : ((A ++ c :: Z).map Cl.blk).Nodup) : (∀ x ∈ A, x.blk ≠ c.blk) ∧ (∀ x ∈ Z, x.blk ≠ c.blk) ∧ ((A ++ Z).map Cl.blk).Nodup ∧ (∀ x ∈ A, ∀ z ∈ Z, x.blk ≠ z.blk) := by
  simp only [List.map_append, List.map_cons, List.nodup_append, List.nodup_cons] at h ⊢
  obtain ⟨h1, ⟨h2, h3⟩, h4⟩ := h
  refine ⟨?_, ?_, ⟨h1, h3, ?_⟩, ?_⟩
  · intro x hx
    exact h4 _ (List.mem_map_of_mem hx) _ (by simp)
  · intro x hx e
    exact h2 (by rw [← e]; exact List.mem_map_of_mem hx)
  · intro a ha b hb
    exact h4 a ha b (by simp [hb])
  · intro x hx z hz
    exact h4 _ (List.mem_map_of_mem hx) _ (by simp; exact .inr ⟨z, hz, rfl⟩)

theorem seg_ptr {w : World} {pv : Value} {A : List Cl} {a : Cl} {nx : Value} (h : Seg w pv (A ++ [a]) nx) : ∃ p, Node w a p nx := by
  rw [seg_append] at h
  exact ⟨_, h.2.1⟩

theorem snoc_cases (A : List Cl) : A = [] ∨ ∃ A' a, A = A' ++ [a] := by
  rcases List.eq_nil_or_concat A with h | ⟨A', a, h⟩
  · exact .inl h
  · exact .inr ⟨A', a, by simpa using h⟩
end Go.Proofs.Qxb6600971a
