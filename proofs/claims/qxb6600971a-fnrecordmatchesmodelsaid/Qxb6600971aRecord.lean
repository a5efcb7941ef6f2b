/-
  'record', walked.
-/
import Derived.Test.Qxb6600971aMap
namespace Go.Proofs.Qxb6600971a
open Go.RowKit Go.Deep

theorem bel_draws {B : Nat} {a w : World} (h : Below B a w) (d : Nat) : Below B a (w.drewN d) := ⟨h.os, h.tape, h.output, h.size, h.block⟩

set_option maxHeartbeats 1000000 in
/-- a number that the client has had: refused -/
theorem record_old (w : World) (r : Nat) (mo : Option Nat) (L : List Cl) (M : ByteArray → Option Nat) (cnt : Nat) (now peak : Int) (c : Cl) (pv nx : Value) (seq n first : Int)
    (h : LS w r mo L now peak) (hm : MapIs w mo M cnt) (hM : M c.id = some c.blk) (hid : c.id.size ≤ maxLen) (hc : Node w c pv nx) (hle : seq ≤ c.seq) :
    Calls Try.prog 25 #[ptr r, .agg #[.string c.id, .int .u64 seq], .int .i64 n, .int .u64 first] w fun e w' => e = .returned (.bool false) ∧ Below w.heap.size w w' := by
  obtain ⟨r0, r1, r2, r3, r4, rf⟩ := rq_cells h.rq
  obtain ⟨c0, c1, c2, c3, c4, c5, c6, cf⟩ := node_cells hc
  have hlr := h.rq.lt
  have hlc := hc.lt
  have hlook : ∀ d, (Instr.lookup 29 (.map mo) (.string c.id) false).run Try.prog ((w.alloc (.cells #[.string c.id, .int .u64 seq] 40)).drewN d) = .ok (.pointer (some ⟨c.blk, 0, none⟩)) ((w.alloc (.cells #[.string c.id, .int .u64 seq] 40)).drewN d) := by
    intro d
    have := MapIs.look (w := (w.alloc (.cells #[.string c.id, .int .u64 seq] 40)).drewN d) (hm.of_block (fun mb e => by subst e; exact blk_alloc_lt _ _ _ hm.lt)) hid
    rw [hM] at this
    exact this
  clear h hm hc
  unfold ptr
  go_enter Try.func25, Try.ntmps25
  go_wp2_with fail
  go_quiet (fail)
  go_wp2_with fail
  go_quiet (fail)
  go_wp2_with fail
  go_ret
  exact ⟨rfl, bel_draws (bel_draws ((Below.refl _ _).alloc (Nat.le_refl _) _) _) _⟩

/-- the client with a new request -/
def newer (c : Cl) (seq n first now : Int) : Cl := { c with seq := seq, first := first, ent := n, tm := now }

theorem node_newer {w : World} {c : Cl} {pv nx : Value} (h : Node w c pv nx) (seq n first now : Int) :
    Node ((((w.setCell ⟨c.blk, 0, none⟩ (.int .u64 seq)).setCell ⟨c.blk, 1, none⟩ (.int .u64 first)).setCell ⟨c.blk, 2, none⟩ (.int .i64 n)).setCell ⟨c.blk, 4, none⟩ (.int .i64 now)) (newer c seq n first now) pv nx := by
  refine ((((h.set 0 _).set 1 _).set 2 _).set 4 _).congr fun i hi => ?_
  have : i = 0 ∨ i = 1 ∨ i = 2 ∨ i = 3 ∨ i = 4 ∨ i = 5 ∨ i = 6 := by omega
  rcases this with rfl | rfl | rfl | rfl | rfl | rfl | rfl <;> simp [ncell, newer]

theorem ls_setOther {w : World} {r : Nat} {mo : Option Nat} {L : List Cl} {now peak : Int} (h : LS w r mo L now peak) {a : Addr} (h1 : a.block ≠ r) (h2 : ∀ x ∈ L, x.blk ≠ a.block) (v : Value) : LS (w.setCell a v) r mo L now peak :=
  ls_of_blocks h (fun k hk => blk_setCell_other _ _ _ _ (by
    rcases hk with rfl | ⟨x, hx, rfl⟩
    · exact fun e => h1 e.symm
    · exact h2 x hx))

theorem not_mine {w : World} {r : Nat} {mo : Option Nat} {L : List Cl} {M : ByteArray → Option Nat} {cnt mb : Nat} {now peak : Int} (h : LS w r mo L now peak) (hm : MapIs w (some mb) M cnt) : ¬ Mine r L mb := by
  rintro (e | ⟨x, hx, e⟩)
  · exact hm.not_row h.rq e
  · obtain ⟨pv, nx, hn⟩ := seg_node h.seg x hx
    exact hm.not_row hn e

theorem mine_newer {r : Nat} {A Z : List Cl} {c : Cl} {seq n first now : Int} {k : Nat} (h : Mine r ((A ++ Z) ++ [newer c seq n first now]) k) : Mine r (A ++ c :: Z) k := by
  rcases h with h | ⟨x, hx, h⟩
  · exact .inl h
  · simp only [List.mem_append, List.mem_singleton] at hx
    rcases hx with (hx | hx) | rfl
    · exact .inr ⟨x, by simp [hx], h⟩
    · exact .inr ⟨x, by simp [hx], h⟩
    · exact .inr ⟨c, by simp, h⟩

set_option maxHeartbeats 2000000 in
/-- a later number of a client that is there: it goes to the newest end -/
theorem record_again (w : World) (r : Nat) (mo : Option Nat) (A Z : List Cl) (M : ByteArray → Option Nat) (cnt : Nat) (now peak : Int) (c : Cl) (seq n first : Int)
    (h : LS w r mo (A ++ c :: Z) now peak) (hm : MapIs w mo M cnt) (hM : M c.id = some c.blk) (hid : c.id.size ≤ maxLen) (hlt : c.seq < seq) :
    Calls Try.prog 25 #[ptr r, .agg #[.string c.id, .int .u64 seq], .int .i64 n, .int .u64 first] w fun e w' => e = .returned (.bool true) ∧ LS w' r mo ((A ++ Z) ++ [newer c seq n first now]) now peak ∧ MapIs w' mo M cnt ∧ Turn (Mine r (A ++ c :: Z)) w w' := by
  obtain ⟨r0, r1, r2, r3, r4, rf⟩ := rq_cells h.rq
  have hcin : c ∈ A ++ c :: Z := by simp
  obtain ⟨pv, nx, hc⟩ := seg_node h.seg c hcin
  obtain ⟨c0, c1, c2, c3, c4, c5, c6, cf⟩ := node_cells hc
  have hlr := h.rq.lt
  have hlc := hc.lt
  have hcr := h.ne c hcin
  have hlook : ∀ d, (Instr.lookup 29 (.map mo) (.string c.id) false).run Try.prog ((w.alloc (.cells #[.string c.id, .int .u64 seq] 40)).drewN d) = .ok (.pointer (some ⟨c.blk, 0, none⟩)) ((w.alloc (.cells #[.string c.id, .int .u64 seq] 40)).drewN d) := by
    intro d
    have := MapIs.look (w := (w.alloc (.cells #[.string c.id, .int .u64 seq] 40)).drewN d) (hm.of_block (fun mb e => by subst e; exact blk_alloc_lt _ _ _ hm.lt)) hid
    rw [hM] at this
    exact this
  have H : Hid (LS w r mo (A ++ c :: Z) now peak ∧ MapIs w mo M cnt) := ⟨h, hm⟩
  clear h hm hc
  show Calls Try.prog 25 #[.pointer (some ⟨r, 0, none⟩), .agg #[.string c.id, .int .u64 seq], .int .i64 n, .int .u64 first] w _
  go_enter Try.func25, Try.ntmps25
  go_wp2_with fail
  go_quiet (fail)
  go_wp2_with fail
  go_quiet (fail)
  go_wp2_with fail
  clear c0 c1 c2 c3 c4 c5 c6 cf r0 r1 r2 r3 r4 rf hlook
  refine (unlink_calls _ r mo A Z now peak c (H.out.1.keep (bel_draws ((Below.refl _ _).alloc (Nat.le_refl _) _) _))).mono ?_
  rintro e w1 ⟨rfl, h1, hn1, ht1⟩
  obtain ⟨r0, r1, r2, r3, r4, rf⟩ := rq_cells h1.rq
  obtain ⟨c0, c1, c2, c3, c4, c5, c6, cf⟩ := node_cells hn1
  obtain ⟨m1, m2, m3, m4⟩ := nd_apart H.out.1.nd
  have hrc : r ≠ c.blk := fun e => hcr e.symm
  have hnm : ¬ Mine r (A ++ c :: Z) w.heap.size := fun g => by have := H.out.1.lt _ g; omega
  have hbx : w1.heap[w.heap.size]? = some (.cells #[.string c.id, .int .u64 seq] 40) := (ht1.block w.heap.size (by simp) hnm).trans (blk_alloc_new w _)
  have b1 : w1.cell? ⟨w.heap.size, 1, none⟩ = some (.int .u64 seq) := by simp [World.cell?, hbx]
  have P := push_calls ((((w1.setCell ⟨c.blk, 0, none⟩ (.int .u64 seq)).setCell ⟨c.blk, 1, none⟩ (.int .u64 first)).setCell ⟨c.blk, 2, none⟩ (.int .i64 n)).setCell ⟨c.blk, 4, none⟩ (.int .i64 now)) r mo (A ++ Z) now peak (newer c seq n first now) nil
    (ls_setOther (ls_setOther (ls_setOther (ls_setOther h1 (a := ⟨c.blk, 0, none⟩) hcr (fun x hx => by rcases List.mem_append.1 hx with g | g; exact m1 x g; exact m2 x g) _) (a := ⟨c.blk, 1, none⟩) hcr (fun x hx => by rcases List.mem_append.1 hx with g | g; exact m1 x g; exact m2 x g) _) (a := ⟨c.blk, 2, none⟩) hcr (fun x hx => by rcases List.mem_append.1 hx with g | g; exact m1 x g; exact m2 x g) _) (a := ⟨c.blk, 4, none⟩) hcr (fun x hx => by rcases List.mem_append.1 hx with g | g; exact m1 x g; exact m2 x g) _)
    (node_newer hn1 seq n first now) ⟨_, rfl⟩ (fun x hx => by rcases List.mem_append.1 hx with g | g; exact m1 x g; exact m2 x g)
  clear h1 hn1 hbx
  go_wp2_with fail
  refine P.mono ?_
  rintro e w3 ⟨rfl, h3, ht3⟩
  have mc : Mine r (A ++ c :: Z) c.blk := .inr ⟨c, by simp, rfl⟩
  have T : Turn (Mine r (A ++ c :: Z)) w w3 :=
    (((((Turn.of_below (bel_draws ((Below.refl _ _).alloc (Nat.le_refl _) _) _)).trans ht1).setCell (p := ⟨c.blk, 0, none⟩) mc _).setCell (p := ⟨c.blk, 1, none⟩) mc _).setCell (p := ⟨c.blk, 2, none⟩) mc _).setCell (p := ⟨c.blk, 4, none⟩) mc _ |>.trans
      (ht3.mono (fun k _ hk => mine_newer hk))
  clear P ht1 ht3
  go_wp2_with fail
  go_ret
  exact ⟨rfl, h3, H.out.2.of_block (fun mb e => by subst e; exact T.block mb H.out.2.lt (not_mine H.out.1 H.out.2)), T⟩
end Go.Proofs.Qxb6600971a
