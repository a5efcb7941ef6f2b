/-
  'view', walked.
-/
import Derived.Test.Qxb6600971aViews
import Derived.Deep.RegionLaw
import Derived.OwnWalk
import Derived.LaidEqlPtr
import Derived.Lib.Builder
namespace Go.Proofs.Qxb6600971a
open Go.RowKit Go.Deep

theorem Try.row9 : (Try.prog.info? 9).map (fun i => (i.zero, i.size, i.bytes)) = some (some (.string ByteArray.empty), 1, 16) := by kernel_rfl
theorem Try.row35 : (Try.prog.info? 35).map (fun i => (i.zero, i.size, i.bytes)) = some (some (.int .u64 0), 1, 8) := by kernel_rfl
theorem Try.row3 : (Try.prog.info? 3).map (fun i => (i.zero, i.size, i.bytes)) = some (some (.int .i64 0), 1, 8) := by kernel_rfl
theorem Try.row2 : (Try.prog.info? 2).map (fun i => (i.zero, i.size, i.bytes)) = some (some (.int .i64 0), 1, 8) := by kernel_rfl

/-- the world when 'view' has made its two structs -/
def w2 (w : World) : World := (w.alloc (.cells #[.slice none 0 0, .slice none 0 0, .slice none 0 0, .slice none 0 0, .slice none 0 0] 48)).alloc (.cells #[.slice none 0 0, .slice none 0 0, .slice none 0 0, .slice none 0 0, .slice none 0 0] 48)

def VI (w wx : World) (L : List Cl) (k j : Nat) : Prop := ∃ v, VW wx (w.heap.size + 2) (w.heap.size + 1) v (mix L k j) ∧ Turn (fun i => i = w.heap.size + 1) (w2 w) wx

theorem vi_start (w : World) (L : List Cl) : VI w (w2 w) L 0 0 := by
  refine ⟨fun _ => .slice none 0 0, ⟨?_, ?_, ?_⟩, Turn.refl _ _⟩
  · have := World.rowIs_alloc (w.alloc (.cells #[.slice none 0 0, .slice none 0 0, .slice none 0 0, .slice none 0 0, .slice none 0 0] 48)) #[.slice none 0 0, .slice none 0 0, .slice none 0 0, .slice none 0 0, .slice none 0 0] 48 (fun _ => .slice none 0 0) (by
      intro i hi
      have : i = 0 ∨ i = 1 ∨ i = 2 ∨ i = 3 ∨ i = 4 := by simp at hi; omega
      rcases this with rfl | rfl | rfl | rfl | rfl <;> rfl)
    rw [nblk_alloc] at this
    exact this
  · intro j hj
    have : mix L 0 0 j = [] := by simp [mix]
    rw [this]
    exact World.ownsRow_nil _ _ _ _
  · intro j hj g hg
    cases hg

theorem turn_old {w wx : World} (hT : Turn (fun i => i = w.heap.size + 1) (w2 w) wx) {k : Nat} (hk : k < w.heap.size) : wx.heap[k]? = w.heap[k]? := by
  rw [hT.block k (by simp [w2]; omega) (by omega)]
  unfold w2
  rw [blk_alloc_lt _ _ _ (by simp; omega), blk_alloc_lt _ _ _ hk]
theorem turn_below {w wx : World} (hT : Turn (fun i => i = w.heap.size + 1) (w2 w) wx) : Below w.heap.size w wx :=
  ⟨hT.os, hT.tape, hT.output, Nat.le_trans (by simp [w2]; omega) hT.size, fun k hk => turn_old hT hk⟩

theorem ls_node {w : World} {r : Nat} {mo : Option Nat} {L : List Cl} {now peak : Int} (h : LS w r mo L now peak) {k : Nat} (hk : k < L.length) : Node w L[k] (lastv nil (L.take k)) (hdv nil (L.drop (k + 1))) := by
  have := h.seg
  rw [← List.take_append_drop k L, List.drop_eq_getElem_cons hk, seg_append] at this
  exact this.2.1

theorem Try.has68 : (Try.prog.info? 68).isSome = true := by kernel_rfl
theorem neq_same (w : World) (b : Nat) : (binOp .neq 30 (.pointer (some ⟨b, 0, none⟩)) (.pointer (some ⟨b, 0, none⟩))).run Try.prog w = .ok (.bool false) w := by
  obtain ⟨j, hj⟩ := Option.isSome_iff_exists.1 Try.has68
  exact Lib.run_neq_ptr_same w _ Try.underlying30 hj

/-- how long the first column is -/
def colLen (w : World) (V : Nat) : Nat := match w.cell? ⟨V, 0, none⟩ with
  | some (.slice _ n _) => n
  | _ => 0

theorem colLen_vw {w : World} {B V k : Nat} {v : Nat → Value} {xs : Nat → List Value} (h : VW w B V v xs) (hk : (xs 0).length = k) : colLen w V = k := by
  obtain ⟨a, cap, e⟩ := own_form (h.own 0 (by omega))
  unfold colLen
  rw [h.row.cell (i := 0) (by omega), e]
  exact hk

theorem mix_len0 (L : List Cl) (k i : Nat) (hk : k ≤ L.length) : (mix L k 0 i).length = k := by
  unfold mix
  rw [if_neg (by omega), List.length_map, List.length_take]
  omega

theorem vw_form {w : World} {B V k j : Nat} {v : Nat → Value} {L : List Cl} (h : VW w B V v (mix L k j)) (hj : j < 5) (hk : k < L.length) : ∃ a cap, v j = .slice a k cap ∧ w.ownsRow B (vty j) 1 (.slice a k cap) k (mix L k j j) := by
  have h1 := h.own j hj
  rw [mix_len L k j j hk (by omega)] at h1
  obtain ⟨a, cap, e⟩ := own_form h1
  rw [e] at h1
  exact ⟨a, cap, e, h1⟩

section push
variable {w wr X w1 : World} {v : Nat → Value} {L : List Cl} {k j g cap cap0 H : Nat} {a : Option Addr}
  (hV : VW wr (w.heap.size + 2) (w.heap.size + 1) v (mix L k j)) (hT : Turn (fun i => i = w.heap.size + 1) (w2 w) wr) (hX : Below wr.heap.size wr X) (hj : j < 5) (e : v j = .slice a k cap0)
  (hg : X.grownBy w1 (Value.slice a k cap0).ownBlock)
include hV hX hj e hg
theorem vi_cell : w1.cell? ⟨w.heap.size + 1, j, none⟩ = some (.slice a k cap0) ∧ ∀ i, w1.frozen? ⟨w.heap.size + 1, i, none⟩ = false := by
  have hVX := hV.keep hX
  have : w1.rowIs (w.heap.size + 1) 48 5 v := hVX.row.of_block (hg.block _ hVX.row.lt (fun e2 => (hVX.apart j hj (w.heap.size + 1) (by rw [e, ← e2])).1 rfl))
  exact ⟨by rw [← e]; exact this.cell hj, this.frozen⟩
include hT
theorem vi_push (hk : k < L.length) (ho : w1.ownsRow (w.heap.size + 2) (vty j) 1 (.slice (some ⟨g, 0, none⟩) (k + 1) cap) (k + 1) (mix L k j j ++ [vdat j L[k]]))
    (hat : (Value.slice a k cap0).ownBlock = some g ∨ g = H) (hH : X.heap.size = H) : VI w (w1.setCell ⟨w.heap.size + 1, j, none⟩ (.slice (some ⟨g, 0, none⟩) (k + 1) cap)) L k (j + 1) := by
  have hVX := hV.keep hX
  refine ⟨_, hVX.push hj hk ho (by rw [e]; exact hg) (by rw [e]; exact hat) hH, ((hT.trans (Turn.of_below hX)).grown hg ?_).setCell (p := ⟨w.heap.size + 1, j, none⟩) rfl _⟩
  intro q hq
  have := ((hVX.own j hj).lt q (by rw [e]; exact hq)).1
  simp [w2]
  omega
end push

theorem mix_all (L : List Cl) (j : Nat) : mix L L.length 0 j = L.map (vdat j) := by
  unfold mix
  rw [if_neg (by omega), List.take_length]

theorem lastv_take (L : List Cl) (k : Nat) (hk : k < L.length) : lastv nil (L.take (k + 1)) = .pointer (some ⟨L[k].blk, 0, none⟩) := by
  rw [List.take_succ_eq_append_getElem hk, lastv_snoc]; rfl

theorem idx44 (b n cap k : Nat) (hk : k < n) (v : World) : (Instr.indexAt 44 (.slice (some ⟨b, 0, none⟩) n cap) (.int .i64 (k : Int))).run Try.prog v = .ok (.pointer (some ⟨b, k, none⟩)) v := by
  have h : Try.prog.underlying 44 = some (.slice (Try.prog.elem 44)) := by kernel_rfl
  have h2 : (sizeOf (Try.prog.elem 44)).run Try.prog v = .ok 1 v := by kernel_rfl
  rw [run_indexAt_slice (h := h), if_pos (by omega), h2]
  simp [Result.andThen, Addr.add]
  omega

theorem vw_id {w : World} {B V : Nat} {v : Nat → Value} {L : List Cl} (h : VW w B V v (mix L L.length 0)) {k : Nat} (hk : k < L.length) : ∃ g cap, v 0 = .slice (some ⟨g, 0, none⟩) L.length cap ∧ w.cell? ⟨g, k, none⟩ = some (.string L[k].id) := by
  have h0 := h.own 0 (by omega)
  rw [mix_len0 L L.length 0 (Nat.le_refl _)] at h0
  obtain ⟨g, cap, e, _, _⟩ := h0.form (by omega)
  rw [e] at h0
  refine ⟨g, cap, e, ?_⟩
  rw [h0.cellAt k (by omega)]
  simp [mix, vdat, hk]

theorem turn_row {w wx : World} (hT : Turn (fun i => i = w.heap.size + 1) (w2 w) wx) : wx.rowIs w.heap.size 48 5 (fun _ => .slice none 0 0) := by
  have h1 := World.rowIs_alloc w #[.slice none 0 0, .slice none 0 0, .slice none 0 0, .slice none 0 0, .slice none 0 0] 48 (fun _ => .slice none 0 0) (by
      intro i hi
      have : i = 0 ∨ i = 1 ∨ i = 2 ∨ i = 3 ∨ i = 4 := by simp at hi; omega
      rcases this with rfl | rfl | rfl | rfl | rfl <;> rfl)
  exact (h1.alloc _).of_block (hT.block _ (by simp [w2]; omega) (by omega))

set_option maxRecDepth 100000 in
set_option maxHeartbeats 4000000 in
theorem view_calls (w : World) (r : Nat) (mo : Option Nat) (L : List Cl) (M : ByteArray → Option Nat) (cnt : Nat) (now peak : Int) (mx : Int)
    (h : LS w r mo L now peak) (hm : MapIs w mo M cnt) (hM : ∀ c ∈ L, M c.id = some c.blk ∧ c.id.size ≤ maxLen) (hmx : (L.length : Int) < mx) (hmx2 : mx ≤ 100000) :
    Calls Try.prog 14 #[ptr r, .int .i64 mx] w fun e w' => ∃ v : Nat → Value, e = .returned (.tuple #[.agg #[v 0, v 1, v 2, v 3, v 4], .bool true]) ∧ (∀ j, j < 5 → w'.ownsRow (w.heap.size + 2) (vty j) 1 (v j) L.length (L.map (vdat j))) ∧ Below w.heap.size w w' := by
  have hlr := h.rq.lt
  have H : Hid (LS w r mo L now peak ∧ MapIs w mo M cnt ∧ ∀ c ∈ L, M c.id = some c.blk ∧ c.id.size ≤ maxLen) := ⟨h, hm, hM⟩
  clear h hm hM
  have HR : Hid (Rq (w2 w) r mo (hdv nil L) (lastv nil L) now peak) := (H.out.1.keep ((((Below.refl _ _).alloc (Nat.le_refl _) _).alloc (by simp) _))).rq
  unfold w2 at HR
  show Calls Try.prog 14 #[.pointer (some ⟨r, 0, none⟩), .int .i64 mx] w _
  go_enter Try.func14, Try.ntmps14
  go_wp2_with fail
  refine (oldest_calls _ r mo _ _ now peak HR.out).mono ?_
  rintro e w' ⟨rfl, rfl⟩
  have HV := vi_start w L
  unfold w2 at HV
  go_wp2_with fail
  clear HV
  go_loopw [7] (fun s wr => ∃ k : Nat, k ≤ L.length ∧ s = hdv nil (L.drop k) ∧ VI w wr L k 0) (fun _ wr => L.length - colLen wr (w.heap.size + 1))
  case atStart => exact ⟨0, by omega, rfl, vi_start w L⟩
  case round =>
    obtain ⟨k, hk, rfl, v, hV, hT⟩ := hrel
    have hcl := colLen_vw hV (mix_len0 L k 0 hk)
    by_cases hlt : k < L.length
    · have hls := H.out.1.keep (turn_below hT)
      have hmp := H.out.2.1.of_block (fun mb e => by subst e; exact turn_old hT H.out.2.1.lt)
      have hnd := ls_node hls hlt
      obtain ⟨hMc, hids⟩ := H.out.2.2 L[k] (List.getElem_mem hlt)
      rw [List.drop_eq_getElem_cons hlt]
      obtain ⟨a0, cap0, e0, o0⟩ := vw_form hV (by omega) hlt
      have V0 := hV.row.cell (i := 0) (by omega)
      rw [e0] at V0
      have VF := hV.row.frozen
      have hVlt := hV.row.lt
      have HO : Hid (wr.ownsRow (w.heap.size + 2) 9 1 (.slice a0 k cap0) k (mix L k 0 0)) := o0
      have HH : Hid (VW wr (w.heap.size + 2) (w.heap.size + 1) v (mix L k 0) ∧ Turn (fun i => i = w.heap.size + 1) (w2 w) wr ∧ colLen wr (w.heap.size + 1) = k ∧ LS wr r mo L now peak ∧ MapIs wr mo M cnt ∧ v 0 = .slice a0 k cap0) := ⟨hV, hT, hcl, hls, hmp, e0⟩
      have hb0 : w.heap.size + 2 ≤ wr.heap.size := Nat.le_trans (by simp [w2]) hT.size
      obtain ⟨c, hcc⟩ : ∃ c, c = L[k] := ⟨_, rfl⟩
      rw [← hcc] at hnd hMc hids
      have HN : Hid (Node wr c (lastv nil (L.take k)) (hdv nil (L.drop (k + 1)))) := hnd
      have HCC : Hid (∃ hlt : k < L.length, c = L[k]) := ⟨hlt, hcc⟩
      have hkm : (k : Int) < mx := by omega
      rw [show hdv nil (L[k] :: L.drop (k + 1)) = .pointer (some ⟨c.blk, 0, none⟩) by rw [hcc]; rfl]
      have HKL : Hid (k < L.length ∧ k ≤ L.length ∧ (L.length : Int) ≤ 100000) := ⟨hlt, hk, by omega⟩
      have hk9 : k ≤ 100000 := by omega
      have HCL : Hid (colLen wr (w.heap.size + 1) = k) := hcl
      clear hV hT hcl hls hmp hnd e0 o0 hcc hlt hk
      go_wp2_with fail
      refine (id_calls _ c _ _ HN.out).mono ?_
      rintro e w' ⟨rfl, hw⟩
      obtain rfl := hw.symm
      go_wp2_with fail
      refine (lookup_calls _ r mo _ _ now peak HH.out.2.2.2.1.rq M cnt HH.out.2.2.2.2.1 c.id hids).mono ?_
      rintro e w' ⟨rfl, hw⟩
      obtain rfl := hw.symm
      rw [hMc]
      unfold ptrO ptr
      have hneq := fun w => neq_same w c.blk
      obtain ⟨i0, hi0, hz0, hz1, hz2⟩ := info_parts Try.row9
      go_upto_region 9 with fail
      go_cut [] from 12 to 63 (fun wx => VI w wx L k 1)
      case first =>
        clear hneq
        go_wp2_with (at_builtin; refine wpList_append_lies _ rfl _ _ _ rfl (w.heap.size + 2) 9 i0 _ 1 16 Try.underlying44 hi0 hz0 hz1 hz2 rfl (by omega) (.slice a0 k cap0) k (mix L k 0 0) rfl (HO.out.alloc _) ⟨wr.heap.size, 0, none⟩ 1 1 [.string c.id] rfl rfl (World.news_of_block (cs := #[.string c.id]) (t := 9) (fr := (0, 0)) (heap_alloc_new wr _)) (by simp [Value.oneCell']) (by omega) (by unfold maxLen; omega) (by omega) (by simp; omega) (wr.heap.size + 1) (by simp) ?_; intro g cap w1 hown hgrow hat hlt; obtain ⟨q1, q2⟩ := vi_cell HH.out.1 ((Below.refl _ _).alloc (Nat.le_refl _) _) (by omega) HH.out.2.2.2.2.2 hgrow)
        go_meet
        obtain ⟨hl, rfl⟩ := HCC.out
        exact vi_push HH.out.1 HH.out.2.1 ((Below.refl _ _).alloc (Nat.le_refl _) _) (by omega) HH.out.2.2.2.2.2 hgrow hl hown hat (by simp)
      case rest =>
      clear V0 VF hVlt HO HH HN hb0 hi0 hz0 hz1 hz2
      obtain ⟨v, hV, hT⟩ := hcut
      obtain ⟨a0, cap0, e0, o0⟩ := vw_form hV (by omega) HKL.out.1
      have V0 := hV.row.cell (i := 1) (by omega)
      rw [e0] at V0
      have VF := hV.row.frozen
      have hVlt := hV.row.lt
      have HO : Hid (wc.ownsRow (w.heap.size + 2) 35 1 (.slice a0 k cap0) k (mix L k 1 1)) := o0
      have HH : Hid (VW wc (w.heap.size + 2) (w.heap.size + 1) v (mix L k 1) ∧ Turn (fun i => i = w.heap.size + 1) (w2 w) wc ∧ v 1 = .slice a0 k cap0) := ⟨hV, hT, e0⟩
      have hb0 : w.heap.size + 2 ≤ wc.heap.size := Nat.le_trans (by simp [w2]) hT.size
      have HN : Hid (Node wc c (lastv nil (L.take k)) (hdv nil (L.drop (k + 1)))) := by
        obtain ⟨hl, rfl⟩ := HCC.out
        exact ls_node (H.out.1.keep (turn_below hT)) hl
      clear hV hT e0 o0
      obtain ⟨i0, hi0, hz0, hz1, hz2⟩ := info_parts Try.row35
      go_upto_region 10 with fail
      go_cut [] from 12 to 63 (fun wx => VI w wx L k 2)
      case first =>
        go_region_law (first
            | (go_simp; go_at_call 28; refine (seq_calls wc.drew c _ _ HN.out).mono ?_; rintro e w' ⟨rfl, rfl⟩)
            | (refine step_append_lies _ ?_ (.tmp 35) (.tmp 38) 45 ?_ (w.heap.size + 2) 35 i0 _ 1 8 Try.underlying45 hi0 hz0 hz1 hz2 rfl (by omega) (.slice a0 k cap0) k (mix L k 1 1) ?_ ((HO.out.alloc _).drew) ⟨wc.heap.size, 0, none⟩ 1 1 [.int .u64 c.seq] ?_ rfl (World.news_of_block (cs := #[.int .u64 c.seq]) (t := 35) (fr := (0, 0)) (heap_alloc_new wc _)) (by simp [Value.oneCell']) (by omega) (by unfold maxLen; omega) (by omega) (by simp; omega) (wc.heap.size + 1) (by simp) ?_; rfl; rfl; rfl; rfl; intro g cap w1 hown hgrow hat hlt; obtain ⟨q1, q2⟩ := vi_cell HH.out.1 (((Below.refl _ _).alloc (Nat.le_refl _) _).drew) (by omega) HH.out.2.2 hgrow))
        all_goals
          go_wp2_with fail
          go_meet
          obtain ⟨hl, rfl⟩ := HCC.out
          exact vi_push HH.out.1 HH.out.2.1 (((Below.refl _ _).alloc (Nat.le_refl _) _).drew) (by omega) HH.out.2.2 hgrow hl hown hat (by simp)
      case rest =>
      clear V0 VF hVlt HO HH HN hb0 hi0 hz0 hz1 hz2
      obtain ⟨v, hV, hT⟩ := hcut
      obtain ⟨a0, cap0, e0, o0⟩ := vw_form hV (by omega) HKL.out.1
      have V0 := hV.row.cell (i := 2) (by omega)
      rw [e0] at V0
      have VF := hV.row.frozen
      have hVlt := hV.row.lt
      have HO : Hid (wc.ownsRow (w.heap.size + 2) 35 1 (.slice a0 k cap0) k (mix L k 2 2)) := o0
      have HH : Hid (VW wc (w.heap.size + 2) (w.heap.size + 1) v (mix L k 2) ∧ Turn (fun i => i = w.heap.size + 1) (w2 w) wc ∧ v 2 = .slice a0 k cap0) := ⟨hV, hT, e0⟩
      have hb0 : w.heap.size + 2 ≤ wc.heap.size := Nat.le_trans (by simp [w2]) hT.size
      have HN : Hid (Node wc c (lastv nil (L.take k)) (hdv nil (L.drop (k + 1)))) := by
        obtain ⟨hl, rfl⟩ := HCC.out
        exact ls_node (H.out.1.keep (turn_below hT)) hl
      clear hV hT e0 o0
      obtain ⟨i0, hi0, hz0, hz1, hz2⟩ := info_parts Try.row35
      go_upto_region 11 with fail
      go_cut [] from 12 to 63 (fun wx => VI w wx L k 3)
      case first =>
        go_region_law (first
            | (go_simp; go_at_call 29; refine (first_calls wc.drew c _ _ HN.out).mono ?_; rintro e w' ⟨rfl, rfl⟩)
            | (refine step_append_lies _ ?_ (.tmp 42) (.tmp 45) 45 ?_ (w.heap.size + 2) 35 i0 _ 1 8 Try.underlying45 hi0 hz0 hz1 hz2 rfl (by omega) (.slice a0 k cap0) k (mix L k 2 2) ?_ ((HO.out.alloc _).drew) ⟨wc.heap.size, 0, none⟩ 1 1 [.int .u64 c.first] ?_ rfl (World.news_of_block (cs := #[.int .u64 c.first]) (t := 35) (fr := (0, 0)) (heap_alloc_new wc _)) (by simp [Value.oneCell']) (by omega) (by unfold maxLen; omega) (by omega) (by simp; omega) (wc.heap.size + 1) (by simp) ?_; rfl; rfl; rfl; rfl; intro g cap w1 hown hgrow hat hlt; obtain ⟨q1, q2⟩ := vi_cell HH.out.1 (((Below.refl _ _).alloc (Nat.le_refl _) _).drew) (by omega) HH.out.2.2 hgrow))
        all_goals
          go_wp2_with fail
          go_meet
          obtain ⟨hl, rfl⟩ := HCC.out
          exact vi_push HH.out.1 HH.out.2.1 (((Below.refl _ _).alloc (Nat.le_refl _) _).drew) (by omega) HH.out.2.2 hgrow hl hown hat (by simp)
      case rest =>
      clear V0 VF hVlt HO HH HN hb0 hi0 hz0 hz1 hz2
      obtain ⟨v, hV, hT⟩ := hcut
      obtain ⟨a0, cap0, e0, o0⟩ := vw_form hV (by omega) HKL.out.1
      have V0 := hV.row.cell (i := 3) (by omega)
      rw [e0] at V0
      have VF := hV.row.frozen
      have hVlt := hV.row.lt
      have HO : Hid (wc.ownsRow (w.heap.size + 2) 3 1 (.slice a0 k cap0) k (mix L k 3 3)) := o0
      have HH : Hid (VW wc (w.heap.size + 2) (w.heap.size + 1) v (mix L k 3) ∧ Turn (fun i => i = w.heap.size + 1) (w2 w) wc ∧ v 3 = .slice a0 k cap0) := ⟨hV, hT, e0⟩
      have hb0 : w.heap.size + 2 ≤ wc.heap.size := Nat.le_trans (by simp [w2]) hT.size
      have HN : Hid (Node wc c (lastv nil (L.take k)) (hdv nil (L.drop (k + 1)))) := by
        obtain ⟨hl, rfl⟩ := HCC.out
        exact ls_node (H.out.1.keep (turn_below hT)) hl
      clear hV hT e0 o0
      obtain ⟨i0, hi0, hz0, hz1, hz2⟩ := info_parts Try.row3
      go_upto_region 12 with fail
      go_cut [] from 12 to 63 (fun wx => VI w wx L k 4)
      case first =>
        go_region_law (first
            | (go_simp; go_at_call 30; refine (ent_calls wc.drew c _ _ HN.out).mono ?_; rintro e w' ⟨rfl, rfl⟩)
            | (refine step_append_lies _ ?_ (.tmp 49) (.tmp 52) 42 ?_ (w.heap.size + 2) 3 i0 _ 1 8 Try.underlying42 hi0 hz0 hz1 hz2 rfl (by omega) (.slice a0 k cap0) k (mix L k 3 3) ?_ ((HO.out.alloc _).drew) ⟨wc.heap.size, 0, none⟩ 1 1 [.int .i64 c.ent] ?_ rfl (World.news_of_block (cs := #[.int .i64 c.ent]) (t := 3) (fr := (0, 0)) (heap_alloc_new wc _)) (by simp [Value.oneCell']) (by omega) (by unfold maxLen; omega) (by omega) (by simp; omega) (wc.heap.size + 1) (by simp) ?_; rfl; rfl; rfl; rfl; intro g cap w1 hown hgrow hat hlt; obtain ⟨q1, q2⟩ := vi_cell HH.out.1 (((Below.refl _ _).alloc (Nat.le_refl _) _).drew) (by omega) HH.out.2.2 hgrow))
        all_goals
          go_wp2_with fail
          go_meet
          obtain ⟨hl, rfl⟩ := HCC.out
          exact vi_push HH.out.1 HH.out.2.1 (((Below.refl _ _).alloc (Nat.le_refl _) _).drew) (by omega) HH.out.2.2 hgrow hl hown hat (by simp)
      case rest =>
      clear V0 VF hVlt HO HH HN hb0 hi0 hz0 hz1 hz2
      obtain ⟨v, hV, hT⟩ := hcut
      obtain ⟨a0, cap0, e0, o0⟩ := vw_form hV (by omega) HKL.out.1
      have V0 := hV.row.cell (i := 4) (by omega)
      rw [e0] at V0
      have VF := hV.row.frozen
      have hVlt := hV.row.lt
      have HO : Hid (wc.ownsRow (w.heap.size + 2) 2 1 (.slice a0 k cap0) k (mix L k 4 4)) := o0
      have HH : Hid (VW wc (w.heap.size + 2) (w.heap.size + 1) v (mix L k 4) ∧ Turn (fun i => i = w.heap.size + 1) (w2 w) wc ∧ v 4 = .slice a0 k cap0) := ⟨hV, hT, e0⟩
      have hb0 : w.heap.size + 2 ≤ wc.heap.size := Nat.le_trans (by simp [w2]) hT.size
      have HN : Hid (Node wc c (lastv nil (L.take k)) (hdv nil (L.drop (k + 1)))) := by
        obtain ⟨hl, rfl⟩ := HCC.out
        exact ls_node (H.out.1.keep (turn_below hT)) hl
      clear hV hT e0 o0
      obtain ⟨i0, hi0, hz0, hz1, hz2⟩ := info_parts Try.row2
      go_upto_region 13 with fail
      go_cut [] from 12 to 63 (fun wx => VI w wx L k 5)
      case first =>
        go_region_law (first
            | (go_simp; go_at_call 31; refine (at_calls wc.drew c _ _ HN.out).mono ?_; rintro e w' ⟨rfl, rfl⟩)
            | (refine step_append_lies _ ?_ (.tmp 56) (.tmp 59) 46 ?_ (w.heap.size + 2) 2 i0 _ 1 8 Try.underlying46 hi0 hz0 hz1 hz2 rfl (by omega) (.slice a0 k cap0) k (mix L k 4 4) ?_ ((HO.out.alloc _).drew) ⟨wc.heap.size, 0, none⟩ 1 1 [.int .i64 c.tm] ?_ rfl (World.news_of_block (cs := #[.int .i64 c.tm]) (t := 2) (fr := (0, 0)) (heap_alloc_new wc _)) (by simp [Value.oneCell']) (by omega) (by unfold maxLen; omega) (by omega) (by simp; omega) (wc.heap.size + 1) (by simp) ?_; rfl; rfl; rfl; rfl; intro g cap w1 hown hgrow hat hlt; obtain ⟨q1, q2⟩ := vi_cell HH.out.1 (((Below.refl _ _).alloc (Nat.le_refl _) _).drew) (by omega) HH.out.2.2 hgrow))
        all_goals
          go_wp2_with fail
          go_meet
          obtain ⟨hl, rfl⟩ := HCC.out
          exact vi_push HH.out.1 HH.out.2.1 (((Below.refl _ _).alloc (Nat.le_refl _) _).drew) (by omega) HH.out.2.2 hgrow hl hown hat (by simp)
      case rest =>
      clear V0 VF hVlt HO HH HN hb0 hi0 hz0 hz1 hz2
      have HE : Hid (VI w wc L (k + 1) 0) := by
        obtain ⟨v, hV, hT⟩ := hcut
        exact ⟨v, hV.congr (fun j hj => mix_round L k j hj), hT⟩
      have HN : Hid (Node wc c (lastv nil (L.take k)) (hdv nil (L.drop (k + 1)))) := by
        obtain ⟨v, hV, hT⟩ := hcut
        obtain ⟨hl, rfl⟩ := HCC.out
        exact ls_node (H.out.1.keep (turn_below hT)) hl
      clear hcut
      go_wp2_with fail
      refine (next_calls _ c _ _ HN.out).mono ?_
      rintro e w' ⟨rfl, hw⟩
      obtain rfl := hw.symm
      go_wp2_with fail
      go_roundw
      case rel =>
        have := HKL.out.1
        exact ⟨k + 1, by omega, rfl, HE.out⟩
      case measure =>
        obtain ⟨v, hV, hT⟩ := HE.out
        have h1 := HKL.out.1
        have h2 := colLen_vw hV (mix_len0 L (k + 1) 0 (by omega))
        have h3 := HCL.out
        simp only [h2, h3]
        omega
    · have hk' : k = L.length := by omega
      subst hk'
      have HLS : Hid (LS wr r mo L now peak) := H.out.1.keep (turn_below hT)
      obtain ⟨a0, cap0, e0⟩ := own_form (hV.own 0 (by omega))
      rw [mix_len0 L _ 0 (Nat.le_refl _)] at e0
      obtain ⟨a1, cap1, e1⟩ := own_form (hV.own 1 (by omega))
      rw [mix_len0 L _ 1 (Nat.le_refl _)] at e1
      obtain ⟨a2, cap2, e2⟩ := own_form (hV.own 2 (by omega))
      rw [mix_len0 L _ 2 (Nat.le_refl _)] at e2
      obtain ⟨a3, cap3, e3⟩ := own_form (hV.own 3 (by omega))
      rw [mix_len0 L _ 3 (Nat.le_refl _)] at e3
      obtain ⟨a4, cap4, e4⟩ := own_form (hV.own 4 (by omega))
      rw [mix_len0 L _ 4 (Nat.le_refl _)] at e4
      have V0 := hV.row.cell (i := 0) (by omega)
      have V1 := hV.row.cell (i := 1) (by omega)
      have V2 := hV.row.cell (i := 2) (by omega)
      have V3 := hV.row.cell (i := 3) (by omega)
      have V4 := hV.row.cell (i := 4) (by omega)
      have VF := hV.row.frozen
      have hVlt := hV.row.lt
      rw [e0] at V0
      rw [e1] at V1
      rw [e2] at V2
      rw [e3] at V3
      rw [e4] at V4
      have hR := turn_row hT
      have R0 : wr.cell? ⟨w.heap.size, 0, none⟩ = some (.slice none 0 0) := hR.cell (i := 0) (by omega)
      have R1 : wr.cell? ⟨w.heap.size, 1, none⟩ = some (.slice none 0 0) := hR.cell (i := 1) (by omega)
      have R2 : wr.cell? ⟨w.heap.size, 2, none⟩ = some (.slice none 0 0) := hR.cell (i := 2) (by omega)
      have R3 : wr.cell? ⟨w.heap.size, 3, none⟩ = some (.slice none 0 0) := hR.cell (i := 3) (by omega)
      have R4 : wr.cell? ⟨w.heap.size, 4, none⟩ = some (.slice none 0 0) := hR.cell (i := 4) (by omega)
      have RF := hR.frozen
      have HH : Hid (VW wr (w.heap.size + 2) (w.heap.size + 1) v (mix L L.length 0) ∧ Turn (fun i => i = w.heap.size + 1) (w2 w) wr ∧ v 0 = .slice a0 L.length cap0) := ⟨hV, hT, e0⟩
      have HE : Hid (v 0 = .slice a0 L.length cap0 ∧ v 1 = .slice a1 L.length cap1 ∧ v 2 = .slice a2 L.length cap2 ∧ v 3 = .slice a3 L.length cap3 ∧ v 4 = .slice a4 L.length cap4) := ⟨e0, e1, e2, e3, e4⟩
      obtain ⟨n, hn⟩ : ∃ n, n = L.length := ⟨_, rfl⟩
      have HNN : Hid (n = L.length) := hn
      have hn9 : n ≤ 100000 := by omega
      rw [List.drop_length]
      clear hV hT e0 e1 e2 e3 e4 hR hcl hk hlt
      rw [show hdv nil [] = .pointer none from rfl]
      rw [← hn] at V0 V1 V2 V3 V4
      clear hn
      go_wp2_with fail
      refine (newest_calls _ r mo _ _ now peak HLS.out.rq).mono ?_
      rintro e w' ⟨rfl, hw⟩
      obtain rfl := hw.symm
      go_wp2_with fail
      go_loopw [7, 9] (fun s m wq => ∃ k d : Nat, k ≤ n ∧ s = lastv nil (L.take k) ∧ m = .int .i64 k ∧ wq = wr.drewN d) (fun _ m _ => (intOf m).toNat)
      case atStart => exact ⟨n, 0, Nat.le_refl _, by rw [HNN.out, List.take_length], rfl, rfl⟩
      case round =>
        obtain ⟨k, d, hk, rfl, rfl, rfl⟩ := hrel
        cases k with
        | zero =>
          rw [show lastv nil (L.take 0) = .pointer none from rfl]
          go_wp2_with fail
          have hE := HE.out
          rw [← HNN.out] at hE
          refine bodyPost_ret (v := .tuple #[.agg #[v 0, v 1, v 2, v 3, v 4], .bool true]) (by rw [hE.1, hE.2.1, hE.2.2.1, hE.2.2.2.1, hE.2.2.2.2]; simp [results, Try.results14, go_sem, R0, R1, R2, R3, R4]) rfl ⟨v, rfl, ?_, ?_⟩
          · intro j hj
            have h1 := HH.out.1.own j hj
            have h2 := h1.lt
            rw [mix_len0 L _ j (Nat.le_refl _), mix_all] at h1
            exact own_of_block h1 (fun q hq => by
              have := (h2 q hq).1
              rw [blk_setCell_other _ _ _ _ (by simp; omega), blk_setCell_other _ _ _ _ (by simp; omega), blk_setCell_other _ _ _ _ (by simp; omega), blk_setCell_other _ _ _ _ (by simp; omega), blk_setCell_other _ _ _ _ (by simp; omega)]
              rfl)
          · exact (((((bel_draws (turn_below HH.out.2.1) d).setCell (p := ⟨w.heap.size, 0, none⟩) (Nat.le_refl _) _).setCell (p := ⟨w.heap.size, 1, none⟩) (Nat.le_refl _) _).setCell (p := ⟨w.heap.size, 2, none⟩) (Nat.le_refl _) _).setCell (p := ⟨w.heap.size, 3, none⟩) (Nat.le_refl _) _).setCell (p := ⟨w.heap.size, 4, none⟩) (Nat.le_refl _) _
        | succ k =>
          have hkl : k < L.length := by rw [← HNN.out]; omega
          have hnd := ls_node HLS.out hkl
          obtain ⟨g, cap, e9, hcell⟩ := vw_id HH.out.1 hkl
          rw [lastv_take L k hkl]
          obtain ⟨rfl, rfl⟩ : a0 = some ⟨g, 0, none⟩ ∧ cap0 = cap := by
            have := HH.out.2.2.symm.trans e9
            simpa using this
          have hi := idx44 g n cap0 k (by omega)
          have k0 : (0 : Int) ≤ (k : Int) := by omega
          have k1 : (k : Int) < (n : Int) := by omega
          obtain ⟨c, hcc⟩ : ∃ c, c = L[k] := ⟨_, rfl⟩
          rw [← hcc] at hnd hcell ⊢
          have HN : Hid (Node wr c (lastv nil (L.take k)) (hdv nil (L.drop (k + 1)))) := hnd
          clear hnd hcc
          go_wp2_with fail
          go_quiet ((go_at_call 27; refine (id_calls _ c (lastv nil (L.take k)) (hdv nil (L.drop (k + 1))) ?_).mono ?_; exact node_draws HN.out _; rintro e w'' ⟨rfl, rfl⟩; exact ⟨rfl, _, rfl⟩))
          go_wp2_with fail
          refine (prev_calls _ c _ _ (node_draws HN.out _)).mono ?_
          rintro e w' ⟨rfl, rfl⟩
          go_wp2_with fail
          go_roundw
          case rel => exact ⟨k, _, by omega, rfl, rfl, rfl⟩
          case measure => simp [intOf]; try omega
end Go.Proofs.Qxb6600971a
