/-
  'record' at the very first client: the map is made.
-/
import Derived.Test.Qxb6600971aRecord2
import Derived.Maps.OwnOps
namespace Go.Proofs.Qxb6600971a
open Go.RowKit Go.Deep
open Go.ChangeMaps (setBlock heap_setBlock_same heap_setBlock_other)

theorem half_of' {w X : World} {r mb b : Nat} {L : List Cl} {M : ByteArray → Option Nat} {cnt : Nat} {now : Int} {id : ByteArray} {seq : Int} {o : Obj} {es : Array MapEntry} {clock : Nat}
    (h : LS X r (some mb) L now cnt) (hbm : X.heap[mb]? = some (.map es clock)) (hT : Turn (fun k => Mine r L k ∨ (none : Option Nat) = some k) w X) (hL : ∀ k, Mine r L k → k < w.heap.size) (hbox : X.heap[w.heap.size]? = some (.cells #[.string id, .int .u64 seq] 40)) (hcl : X.heap[b]? = some (rawClient id)) (hb : w.heap.size < mb) (hbb : mb < b)
    (hmap : MapIs (setBlock X mb o) (some mb) (upd M id b) (cnt + 1)) : Half w (setBlock X mb o) r none mb b L M cnt now id seq := by
  have hoth : ∀ k, k ≠ mb → (setBlock X mb o).heap[k]? = X.heap[k]? := fun k hk => heap_setBlock_other hbm _ hk
  refine ⟨ls_of_blocks h (fun k hk => ?_), hmap, raw_node ?_, ?_, ?_⟩
  · exact hoth k (by have := hL k hk; omega)
  · rw [hoth b (by omega)]; exact hcl
  · rw [hoth _ (by omega)]; exact hbox
  · exact ⟨hT.os, hT.tape, hT.output, by simpa [setBlock] using hT.size, fun k hk hn => (hoth k (by omega)).trans (hT.block k hk hn)⟩

set_option maxRecDepth 100000 in
set_option maxHeartbeats 2000000 in
theorem record_new0 (w : World) (r : Nat) (L : List Cl) (M : ByteArray → Option Nat) (now : Int) (id : ByteArray) (seq n first : Int)
    (h : LS w r none L now 0) (hm : MapIs w none M 0) (hid : id.size ≤ maxLen) :
    Calls Try.prog 25 #[ptr r, .agg #[.string id, .int .u64 seq], .int .i64 n, .int .u64 first] w fun e w' => e = .returned (.bool true) ∧ ∃ mb b, w.heap.size ≤ b ∧ LS w' r (some mb) (L ++ [⟨b, id, seq, first, n, now⟩]) now 1 ∧
      MapIs w' (some mb) (upd M id b) 1 ∧ w.heap.size ≤ mb ∧ Turn (fun k => Mine r L k ∨ (none : Option Nat) = some k) w w' := by
  obtain ⟨r0, r1, r2, r3, r4, rf⟩ := rq_cells h.rq
  have hlr := h.rq.lt
  have hMM : M = fun _ => none := funext hm.1
  have hlook : ∀ d, (Instr.lookup 29 (.map none) (.string id) false).run Try.prog ((w.alloc (.cells #[.string id, .int .u64 seq] 40)).drewN d) = .ok (.pointer none) ((w.alloc (.cells #[.string id, .int .u64 seq] 40)).drewN d) := by
    intro d
    have := MapIs.look (w := (w.alloc (.cells #[.string id, .int .u64 seq] 40)).drewN d) (hm.of_block (fun mb e => by cases e)) hid
    rw [hm.1 id] at this
    exact this
  have hq : ∀ w : World, (binOp .eql 29 (.map none) (.map none)).run Try.prog w = .ok (.bool true) w := fun w => run_eql_map_nil w _ _ _ none Try.underlying29
  have hmm := @run_makeMap Try.prog
  have hmade := MapIs.made (w.alloc (.cells #[.string id, .int .u64 seq] 40))
  rw [nblk_alloc] at hmade
  obtain ⟨o, ho⟩ := hmade.stores (by unfold maxLen; omega) hid rfl (w.heap.size + 2)
  have hXm : ∀ d, ((((((w.alloc (.cells #[.string id, .int .u64 seq] 40)).drewN d).setCell ⟨r, 0, none⟩ (.map (some (w.heap.size + 1)))).alloc (.map #[] 0)).alloc (.cells #[.int .u64 0, .int .u64 0, .int .i64 0, .string id, .int .i64 0, .pointer none, .pointer none] 68)).drew).heap[w.heap.size + 1]? = some (.map #[] 0) := by
    intro d
    show (((((w.alloc _).drewN d).setCell _ _).alloc _).alloc _).heap[w.heap.size + 1]? = _
    rw [blk_alloc_lt _ _ _ (by simp)]
    exact (congrArg _ (by simp)).trans (blk_alloc_new _ _)
  have hX0 : ∀ d, LS ((((((w.alloc (.cells #[.string id, .int .u64 seq] 40)).drewN d).setCell ⟨r, 0, none⟩ (.map (some (w.heap.size + 1)))).alloc (.map #[] 0)).alloc (.cells #[.int .u64 0, .int .u64 0, .int .i64 0, .string id, .int .i64 0, .pointer none, .pointer none] 68)).drew) r (some (w.heap.size + 1)) L now 0 := by
    intro d
    have l1 : LS ((w.alloc (.cells #[.string id, .int .u64 seq] 40)).drewN d) r none L now 0 := h.keep (bel_draws ((Below.refl _ _).alloc (Nat.le_refl _) _) _)
    have l2 : LS (((w.alloc (.cells #[.string id, .int .u64 seq] 40)).drewN d).setCell ⟨r, 0, none⟩ (.map (some (w.heap.size + 1)))) r (some (w.heap.size + 1)) L now 0 := ⟨(rq_set l1.rq).2.2.2.2 _, seg_setOther l1.seg (a := ⟨r, 0, none⟩) l1.ne _, l1.nd⟩
    exact l2.keep ((((Below.refl _ _).alloc (Nat.le_refl _) _).alloc (by simp) _).drew)
  have hr0 := fun d => (rq_cells (hX0 d).rq).1
  have hrz := fun d => (rq_cells (hX0 d).rq).2.2.2.2.2
  have HX0 : Hid (∀ d, LS ((((((w.alloc (.cells #[.string id, .int .u64 seq] 40)).drewN d).setCell ⟨r, 0, none⟩ (.map (some (w.heap.size + 1)))).alloc (.map #[] 0)).alloc (.cells #[.int .u64 0, .int .u64 0, .int .i64 0, .string id, .int .i64 0, .pointer none, .pointer none] 68)).drew) r (some (w.heap.size + 1)) L now 0) := hX0
  clear hX0
  have hmb : ((w.alloc (.cells #[.string id, .int .u64 seq] 40)).alloc (.map #[] 0)).heap[w.heap.size + 1]? = some (.map #[] 0) := (congrArg _ (by simp)).trans (blk_alloc_new _ _)
  have hup := fun d => (ho _ ((hXm d).trans hmb.symm)).1
  have HUP := fun d => (ho _ ((hXm d).trans hmb.symm)).2
  have HUP' : Hid (∀ d, MapIs (setBlock ((((((w.alloc (.cells #[.string id, .int .u64 seq] 40)).drewN d).setCell ⟨r, 0, none⟩ (.map (some (w.heap.size + 1)))).alloc (.map #[] 0)).alloc (.cells #[.int .u64 0, .int .u64 0, .int .i64 0, .string id, .int .i64 0, .pointer none, .pointer none] 68)).drew) (w.heap.size + 1) o) (some (w.heap.size + 1)) (upd M id (w.heap.size + 2)) (0 + 1)) := by
    rw [hMM]; exact HUP
  have HXM : Hid (∀ d, ((((((w.alloc (.cells #[.string id, .int .u64 seq] 40)).drewN d).setCell ⟨r, 0, none⟩ (.map (some (w.heap.size + 1)))).alloc (.map #[] 0)).alloc (.cells #[.int .u64 0, .int .u64 0, .int .i64 0, .string id, .int .i64 0, .pointer none, .pointer none] 68)).drew).heap[w.heap.size + 1]? = some (.map #[] 0)) := hXm
  unfold ptr at hup
  have H : Hid (LS w r none L now 0 ∧ MapIs w none M 0) := ⟨h, hm⟩
  clear h hm ho hXm HUP hmade hmb hMM
  show Calls Try.prog 25 #[.pointer (some ⟨r, 0, none⟩), .agg #[.string id, .int .u64 seq], .int .i64 n, .int .u64 first] w _
  go_enter Try.func25, Try.ntmps25
  go_wp2_with fail
  go_quiet (fail)
  go_wp2_with fail
  go_quiet (fail)
  go_upto_region 8 with fail
  go_cut [] (fun wx => Half w wx r none (w.heap.size + 1) (w.heap.size + 2) L M 0 now id seq)
  case first =>
    go_region
    all_goals
      go_wp2_with fail
      go_meet
      refine half_of' (HX0.out _) (HXM.out _) ?_ (fun k hk => H.out.1.lt k hk) ?_ ?_ (by omega) (by omega) (HUP'.out _)
      · exact (((((Turn.of_below (bel_draws ((Below.refl _ _).alloc (Nat.le_refl _) _) _)).setCell (p := ⟨r, 0, none⟩) (.inl (.inl rfl)) _).alloc _).alloc _).draws 1)
      · exact (blk_alloc_lt _ _ _ (by simp <;> omega)).trans ((blk_alloc_lt _ _ _ (by simp)).trans ((blk_setCell_other _ _ _ _ (by simp; omega)).trans (blk_alloc_new _ _)))
      · exact (congrArg _ (by simp)).trans (blk_alloc_new _ _)
  case rest =>
  clear hup hlook hq r0 r1 r2 r3 r4 rf HUP' hr0 hrz hmm
  obtain ⟨r0, r1, r2, r3, r4, rf⟩ := rq_cells hcut.ls.rq
  have hlen : ∀ ty, (Builtin.len_ #[29] ty #[.map (some (w.heap.size + 1))]).run Try.prog wc.drew = .ok (.int .i64 1) wc.drew := fun ty => MapIs.len (w := wc.drew) (hcut.map.of_block (fun _ _ => rfl)) ty
  have HC : Hid (Half w wc r none (w.heap.size + 1) (w.heap.size + 2) L M 0 now id seq) := hcut
  clear hcut
  have b1 : wc.cell? ⟨w.heap.size, 1, none⟩ = some (.int .u64 seq) := by simp [World.cell?, HC.out.box]
  obtain ⟨c0, c1, c2, c3, c4, c5, c6, cf⟩ := node_cells HC.out.node
  have hrb : r ≠ w.heap.size := by omega
  have hrc : r ≠ w.heap.size + 2 := by omega
  have hcr : w.heap.size + 2 ≠ r := by omega
  have hbr : w.heap.size ≠ r := by omega
  dsimp only at c0 c1 c2 c3 c4 c5 c6 cf
  go_wp2_with fail
  go_region
  go_wp2_with fail
  clear c0 c1 c2 c3 c4 c5 c6 cf r0 r1 r2 r3 r4 rf hlen b1
  refine (half_end HC.out (fun k hk => H.out.1.lt k hk) (by omega) n first).mono ?_
  rintro e w3 ⟨rfl, h3, hm3, ht3⟩
  go_wp2_with fail
  go_ret
  exact ⟨rfl, _, _, by omega, h3, hm3, by omega, ht3⟩
end Go.Proofs.Qxb6600971a
