/-
  'record' at a client that is not there yet, walked.
-/
import Derived.Test.Qxb6600971aRecord
import Derived.Deep.DeepCutAuto
namespace Go.Proofs.Qxb6600971a
open Go.RowKit Go.Deep
open Go.ChangeMaps (setBlock heap_setBlock_same heap_setBlock_other)

def rawClient (id : ByteArray) : Obj := .cells #[.int .u64 0, .int .u64 0, .int .i64 0, .string id, .int .i64 0, .pointer none, .pointer none] 68

theorem raw_node {w : World} {b : Nat} {id : ByteArray} (h : w.heap[b]? = some (rawClient id)) : Node w ⟨b, id, 0, 0, 0, 0⟩ nil nil := by
  refine ⟨_, h, rfl, fun i hi => ?_⟩
  have : i = 0 ∨ i = 1 ∨ i = 2 ∨ i = 3 ∨ i = 4 ∨ i = 5 ∨ i = 6 := by omega
  rcases this with rfl | rfl | rfl | rfl | rfl | rfl | rfl <;> rfl

/-- what holds once the map has the new client -/
structure Half (w wx : World) (r : Nat) (mo : Option Nat) (mb b : Nat) (L : List Cl) (M : ByteArray → Option Nat) (cnt : Nat) (now : Int) (id : ByteArray) (seq : Int) : Prop where
  ls : LS wx r (some mb) L now cnt
  map : MapIs wx (some mb) (upd M id b) (cnt + 1)
  node : Node wx ⟨b, id, 0, 0, 0, 0⟩ nil nil
  box : wx.heap[w.heap.size]? = some (.cells #[.string id, .int .u64 seq] 40)
  turn : Turn (fun k => Mine r L k ∨ mo = some k) w wx

theorem Turn.setBlock {S : Nat → Prop} {a w : World} (h : Turn S a w) {b : Nat} {es : Array MapEntry} {clock : Nat} (hb : w.heap[b]? = some (.map es clock)) (hs : S b) (o : Obj) : Turn S a (setBlock w b o) :=
  h.trans ⟨rfl, rfl, rfl, by simp [Go.ChangeMaps.setBlock], fun k _ hn => heap_setBlock_other hb _ (fun e => hn (by rw [e]; exact hs))⟩


theorem half_of {w X : World} {r mb b : Nat} {L : List Cl} {M : ByteArray → Option Nat} {cnt : Nat} {now : Int} {id : ByteArray} {seq : Int} {o : Obj}
    (h : LS w r (some mb) L now cnt) (hm : MapIs w (some mb) M cnt) (hX : Below w.heap.size w X) (hbox : X.heap[w.heap.size]? = some (.cells #[.string id, .int .u64 seq] 40)) (hcl : X.heap[b]? = some (rawClient id)) (hb : w.heap.size < b)
    (hmap : MapIs (setBlock X mb o) (some mb) (upd M id b) (cnt + 1)) : Half w (setBlock X mb o) r (some mb) mb b L M cnt now id seq := by
  have hlt := hm.lt
  obtain ⟨D, ⟨es, clock, hbm, _⟩, _⟩ := hm.of_block (w' := X) (fun mb' e => by cases e; exact hX.block mb hlt)
  have hnm := not_mine h hm
  have hoth : ∀ k, k ≠ mb → (setBlock X mb o).heap[k]? = X.heap[k]? := fun k hk => heap_setBlock_other hbm _ hk
  refine ⟨ls_of_blocks h (fun k hk => ?_), hmap, raw_node ?_, ?_, ?_⟩
  · rw [hoth k (fun e => hnm (by rw [← e]; exact hk))]
    exact hX.block k (h.lt k hk)
  · rw [hoth b (by omega)]; exact hcl
  · rw [hoth _ (by omega)]; exact hbox
  · exact (Turn.of_below hX).setBlock hbm (.inr rfl) o

theorem Turn.after {S S' : Nat → Prop} {a b c : World} (h : Turn S a b) (k : Turn S' b c) (hs : ∀ i, i < a.heap.size → S' i → S i) : Turn S a c :=
  ⟨k.os.trans h.os, k.tape.trans h.tape, k.output.trans h.output, Nat.le_trans h.size k.size, fun i hi hn => (k.block i (Nat.lt_of_lt_of_le hi h.size) (fun g => hn (hs i hi g))).trans (h.block i hi hn)⟩

theorem half_end {w wc : World} {r mb b : Nat} {mo : Option Nat} {L : List Cl} {M : ByteArray → Option Nat} {cnt : Nat} {now : Int} {id : ByteArray} {seq : Int}
    (HC : Half w wc r mo mb b L M cnt now id seq) (hL : ∀ k, Mine r L k → k < w.heap.size) (hb : w.heap.size ≤ b) (n first : Int) :
    Calls Try.prog 34 #[ptr r, ptr b] (((((wc.setCell ⟨r, 4, none⟩ (.int .i64 (cnt + 1))).setCell ⟨b, 0, none⟩ (.int .u64 seq)).setCell ⟨b, 1, none⟩ (.int .u64 first)).setCell ⟨b, 2, none⟩ (.int .i64 n)).setCell ⟨b, 4, none⟩ (.int .i64 now)).drew
      fun e w' => e = .returned (.tuple #[]) ∧ LS w' r (some mb) (L ++ [⟨b, id, seq, first, n, now⟩]) now (cnt + 1) ∧ MapIs w' (some mb) (upd M id b) (cnt + 1) ∧ Turn (fun k => Mine r L k ∨ mo = some k) w w' := by
  have hr : r < w.heap.size := hL r (.inl rfl)
  have hbr : b ≠ r := by omega
  have hbL : ∀ x ∈ L, x.blk ≠ b := fun x hx => by have := hL x.blk (.inr ⟨x, hx, rfl⟩); omega
  have l1 : LS (wc.setCell ⟨r, 4, none⟩ (.int .i64 (cnt + 1))) r (some mb) L now (cnt + 1) :=
    ⟨(rq_set HC.ls.rq).2.2.2.1 _, seg_setOther HC.ls.seg (a := ⟨r, 4, none⟩) HC.ls.ne _, HC.ls.nd⟩
  have n1 := node_newer (node_setOther (a := ⟨r, 4, none⟩) HC.node hbr (.int .i64 (cnt + 1))) seq n first now
  have l2 := ls_setOther (ls_setOther (ls_setOther (ls_setOther l1 (a := ⟨b, 0, none⟩) hbr hbL (.int .u64 seq)) (a := ⟨b, 1, none⟩) hbr hbL (.int .u64 first)) (a := ⟨b, 2, none⟩) hbr hbL (.int .i64 n)) (a := ⟨b, 4, none⟩) hbr hbL (.int .i64 now)
  have mr : Mine r L r := .inl rfl
  have hnm := not_mine HC.ls HC.map
  have hbm : b ≠ mb := fun e => HC.map.not_row HC.node e.symm
  have T0 : Turn (fun k => k = r ∨ k = b) wc (((((wc.setCell ⟨r, 4, none⟩ (.int .i64 (cnt + 1))).setCell ⟨b, 0, none⟩ (.int .u64 seq)).setCell ⟨b, 1, none⟩ (.int .u64 first)).setCell ⟨b, 2, none⟩ (.int .i64 n)).setCell ⟨b, 4, none⟩ (.int .i64 now)).drew :=
    ((((((Turn.refl _ wc).setCell (p := ⟨r, 4, none⟩) (.inl rfl) _).setCell (p := ⟨b, 0, none⟩) (.inr rfl) _).setCell (p := ⟨b, 1, none⟩) (.inr rfl) _).setCell (p := ⟨b, 2, none⟩) (.inr rfl) _).setCell (p := ⟨b, 4, none⟩) (.inr rfl) _).draws 1
  refine (push_calls _ r (some mb) L now (cnt + 1) ⟨b, id, seq, first, n, now⟩ nil (ls_draws l2 1) (node_draws n1 1) ⟨_, rfl⟩ hbL).mono ?_
  rintro e w3 ⟨rfl, h3, ht3⟩
  have TT : Turn (fun k => Mine r (L ++ [⟨b, id, seq, first, n, now⟩]) k) wc w3 := T0.mono (fun k _ hk => by
    rcases hk with rfl | rfl
    · exact .inl rfl
    · exact .inr ⟨_, List.mem_append_right _ (List.mem_singleton.2 rfl), rfl⟩) |>.trans ht3
  refine ⟨rfl, h3, HC.map.of_block (fun mb' e => ?_), HC.turn.after TT ?_⟩
  · cases e
    refine TT.block mb HC.map.lt ?_
    rintro (g | ⟨x, hx, g⟩)
    · exact hnm (.inl g)
    · rcases List.mem_append.1 hx with hx | hx
      · exact hnm (.inr ⟨x, hx, g⟩)
      · rcases List.mem_singleton.1 hx with rfl
        exact hbm g.symm
  · rintro i hi (g | ⟨x, hx, g⟩)
    · exact .inl (.inl g)
    · rcases List.mem_append.1 hx with hx | hx
      · exact .inl (.inr ⟨x, hx, g⟩)
      · rcases List.mem_singleton.1 hx with rfl
        simp only at g
        omega

set_option maxRecDepth 100000 in
set_option maxHeartbeats 2000000 in
theorem record_new (w : World) (r mb : Nat) (L : List Cl) (M : ByteArray → Option Nat) (cnt : Nat) (now : Int) (id : ByteArray) (seq n first : Int)
    (h : LS w r (some mb) L now cnt) (hm : MapIs w (some mb) M cnt) (hM : M id = none) (hid : id.size ≤ maxLen) (hcnt : cnt ≤ 100000) :
    Calls Try.prog 25 #[ptr r, .agg #[.string id, .int .u64 seq], .int .i64 n, .int .u64 first] w fun e w' => e = .returned (.bool true) ∧ ∃ b, w.heap.size ≤ b ∧ LS w' r (some mb) (L ++ [⟨b, id, seq, first, n, now⟩]) now (cnt + 1) ∧
      MapIs w' (some mb) (upd M id b) (cnt + 1) ∧ Turn (fun k => Mine r L k ∨ some mb = some k) w w' := by
  obtain ⟨r0, r1, r2, r3, r4, rf⟩ := rq_cells h.rq
  have hlr := h.rq.lt
  have hlm := hm.lt
  have hlook : ∀ d, (Instr.lookup 29 (.map (some mb)) (.string id) false).run Try.prog ((w.alloc (.cells #[.string id, .int .u64 seq] 40)).drewN d) = .ok (.pointer none) ((w.alloc (.cells #[.string id, .int .u64 seq] 40)).drewN d) := by
    intro d
    have := MapIs.look (w := (w.alloc (.cells #[.string id, .int .u64 seq] 40)).drewN d) (hm.of_block (fun mb e => by cases e; exact blk_alloc_lt _ _ _ hm.lt)) hid
    rw [hM] at this
    exact this
  have hq : ∀ w : World, (binOp .eql 29 (.map (some mb)) (.map none)).run Try.prog w = .ok (.bool false) w := fun w => run_eql_map_nil w _ _ _ (some mb) Try.underlying29
  obtain ⟨o, ho⟩ := hm.stores (by unfold maxLen; omega) hid hM (w.heap.size + 1)
  have hXm : ∀ d, ((((w.alloc (.cells #[.string id, .int .u64 seq] 40)).drewN d).alloc (.cells #[.int .u64 0, .int .u64 0, .int .i64 0, .string id, .int .i64 0, .pointer none, .pointer none] 68)).drew).heap[mb]? = w.heap[mb]? := by
    intro d
    show (((w.alloc _).drewN d).alloc _).heap[mb]? = _
    rw [blk_alloc_lt _ _ _ (by simp; omega)]
    exact blk_alloc_lt _ _ _ hlm
  have hup := fun d => (ho _ (hXm d)).1
  have HUP : Hid (∀ d, MapIs (setBlock ((((w.alloc (.cells #[.string id, .int .u64 seq] 40)).drewN d).alloc (.cells #[.int .u64 0, .int .u64 0, .int .i64 0, .string id, .int .i64 0, .pointer none, .pointer none] 68)).drew) mb o) (some mb) (upd M id (w.heap.size + 1)) (cnt + 1)) := fun d => (ho _ (hXm d)).2
  unfold ptr at hup
  have H : Hid (LS w r (some mb) L now cnt ∧ MapIs w (some mb) M cnt ∧ M id = none) := ⟨h, hm, hM⟩
  clear h hm hM ho hXm
  show Calls Try.prog 25 #[.pointer (some ⟨r, 0, none⟩), .agg #[.string id, .int .u64 seq], .int .i64 n, .int .u64 first] w _
  go_enter Try.func25, Try.ntmps25
  go_wp2_with fail
  go_quiet (fail)
  go_wp2_with fail
  go_quiet (fail)
  go_upto_region 8 with fail
  go_cut [] (fun wx => Half w wx r (some mb) mb (w.heap.size + 1) L M cnt now id seq)
  case first =>
    go_region
    all_goals
      go_wp2_with fail
      go_meet
      exact half_of H.out.1 H.out.2.1 (((bel_draws ((Below.refl _ _).alloc (Nat.le_refl _) _) _).alloc (by simp) _).drew) ((blk_alloc_lt _ _ _ (by simp)).trans (blk_alloc_new _ _)) ((congrArg _ (by simp)).trans (blk_alloc_new _ _)) (by omega) (HUP.out _)
  case rest =>
  clear hup hlook hq r0 r1 r2 r3 r4 rf HUP
  obtain ⟨r0, r1, r2, r3, r4, rf⟩ := rq_cells hcut.ls.rq
  have hlen : ∀ ty, (Builtin.len_ #[29] ty #[.map (some mb)]).run Try.prog wc.drew = .ok (.int .i64 ((cnt + 1 : Nat) : Int)) wc.drew := fun ty => MapIs.len (w := wc.drew) (hcut.map.of_block (fun _ _ => rfl)) ty
  have HC : Hid (Half w wc r (some mb) mb (w.heap.size + 1) L M cnt now id seq) := hcut
  clear hcut
  have b1 : wc.cell? ⟨w.heap.size, 1, none⟩ = some (.int .u64 seq) := by simp [World.cell?, HC.out.box]
  obtain ⟨c0, c1, c2, c3, c4, c5, c6, cf⟩ := node_cells HC.out.node
  have hrb : r ≠ w.heap.size := by omega
  have hrc : r ≠ w.heap.size + 1 := by omega
  have hcr : w.heap.size + 1 ≠ r := by omega
  have hbr : w.heap.size ≠ r := by omega
  dsimp only at c0 c1 c2 c3 c4 c5 c6 cf
  go_wp2_with fail
  go_region
  go_wp2_with fail
  clear c0 c1 c2 c3 c4 c5 c6 cf r0 r1 r2 r3 r4 rf hlen b1
  refine (half_end HC.out (fun k hk => H.out.1.lt k hk) (by omega) n first).mono ?_
  rintro e w3 ⟨rfl, h3, hm3, ht3⟩
  go_wp2_with fail
  go_ret
  exact ⟨rfl, _, by omega, h3, hm3, ht3⟩
end Go.Proofs.Qxb6600971a
