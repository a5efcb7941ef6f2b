/-
  '(*parameterList).alike', walked: the loop.
-/
import Derived.Test.Qxb6600630aAlike
import Derived.Test.Qxb6600630aAlikePlain
namespace Go.Proofs.Qxb6600630a
open Go.RowKit

/-- the slot 'values' and the memory behind it after k rounds -/
def Vals (w wr : World) (n : Nat) (tl tm : Nat → ByteArray) (kl km : Nat → Bool) (k : Nat) (v : Value) : Prop :=
  (rs tl tm kl km k = false ∧ v = .slice none 0 0) ∨
  (rs tl tm kl km k = true ∧ ∃ g cap, v = .slice (some ⟨g, 0, none⟩) n cap ∧ w.heap.size ≤ g ∧ g < wr.heap.size ∧ (∃ c t, wr.heap[g]? = some (.cells c t (0, 0))) ∧ ∀ i, i < n * 6 → wr.cell? ⟨g, i, none⟩ = some (vcell (txr tl tm kl km k) (knr tl tm kl km k) i))

theorem told_bad {n : Nat} {tl tm : Nat → ByteArray} {kl km : Nat → Bool} {k : Nat} (h : ag tl tm kl km k = false) : Value.int .i64 ((n : Int) - 1 - (k : Int)) = .int .i64 (toldTo n tl tm kl km (k + 1)) := by
  simp [toldTo, h]
theorem told_good {n : Nat} {tl tm : Nat → ByteArray} {kl km : Nat → Bool} {k : Nat} (h : ag tl tm kl km k = true) : Value.int .i64 (toldTo n tl tm kl km k) = .int .i64 (toldTo n tl tm kl km (k + 1)) := by
  simp [toldTo, h]

theorem vals_skip {w wr : World} {n : Nat} {tl tm : Nat → ByteArray} {kl km : Nat → Bool} {k : Nat} {v : Value} (h : Vals w wr n tl tm kl km k v) (hb : bad tl tm kl km k = false) (o : Obj) (d : Nat) :
    Vals w ((wr.alloc o).drewN d) n tl tm kl km (k + 1) v := by
  have hrs : rs tl tm kl km (k + 1) = rs tl tm kl km k := by simp [rs, hb]
  unfold Vals
  rw [hrs]
  rcases h with h | ⟨hr, g, cap, rfl, hg1, hg2, ⟨c, t, hc⟩, hg4⟩
  · exact .inl h
  · refine .inr ⟨hr, g, cap, rfl, hg1, ?_, ⟨c, t, ?_⟩, ?_⟩
    · show g < (wr.alloc o).heap.size
      rw [World.size_alloc]; omega
    · show (wr.alloc o).heap[g]? = _
      rw [Go.Deep.blk_alloc_lt _ _ _ hg2]; exact hc
    · intro i hi
      show (wr.alloc o).cell? ⟨g, i, none⟩ = _
      rw [World.cell?_of_block (w := wr) (Go.Deep.blk_alloc_lt _ _ _ hg2), hg4 i hi]
      exact congrArg some (vcell_congr (txr_skip hb _).symm (knr_skip hb _).symm)

theorem str_ne {a b : ByteArray} (h : ¬ a = b) : (a.toList == b.toList) = false := by
  rw [ByteArray.toList_eq, ByteArray.toList_eq]
  apply beq_eq_false_iff_ne.2
  intro e
  apply h
  apply ByteArray.ext
  exact Array.ext' e

theorem fin_list {wr : World} {n g cap : Nat} {tx : Nat → ByteArray} {kn : Nat → Bool} {t : Int} (hs : n ≤ 65536) (hg2 : g < wr.heap.size) (hg3 : ∃ c t, wr.heap[g]? = some (.cells c t (0, 0)))
    (hg4 : ∀ i, i < n * 6 → wr.cell? ⟨g, i, none⟩ = some (vcell tx kn i)) :
    IsList (wr.alloc (.cells #[.slice (some ⟨g, 0, none⟩) n cap, .int .i64 t] 60)) wr.heap.size g n cap tx kn t := by
  refine ⟨by simp, by simp, ?_, ?_, ?_, hs, ⟨_, _, Go.Deep.blk_alloc_new _ _⟩, ?_⟩
  · intro i hi
    rw [World.cell?_of_block (w := wr) (Go.Deep.blk_alloc_lt _ _ _ hg2)]
    exact hg4 i hi
  · rw [World.size_alloc]; omega
  · rw [World.size_alloc]; omega
  · rw [Go.Deep.blk_alloc_lt _ _ _ hg2]; exact hg3

/-- the zero value stored at value k of the row g -/
def zap (X : World) (g k : Nat) : World :=
  (((((X.setCell ⟨g, k * 6, none⟩ (.string ⟨#[]⟩)).setCell ⟨g, k * 6 + 1, none⟩ (.bool false)).setCell ⟨g, k * 6 + 2, none⟩ (.bool false)).setCell ⟨g, k * 6 + 3, none⟩ (.bool false)).setCell ⟨g, k * 6 + 4, none⟩ (.int .i64 0)).setCell ⟨g, k * 6 + 5, none⟩ (.pointer none)

theorem zap_below {B : Nat} {a X : World} {g k : Nat} (h : Below B a X) (hg : B ≤ g) : Below B a (zap X g k) :=
  (((((h.setCell (p := ⟨g, k * 6, none⟩) hg _).setCell (p := ⟨g, k * 6 + 1, none⟩) hg _).setCell (p := ⟨g, k * 6 + 2, none⟩) hg _).setCell (p := ⟨g, k * 6 + 3, none⟩) hg _).setCell (p := ⟨g, k * 6 + 4, none⟩) hg _).setCell (p := ⟨g, k * 6 + 5, none⟩) hg _

theorem zap_vals {w X : World} {n : Nat} {tl tm : Nat → ByteArray} {kl km : Nat → Bool} {k g cap : Nat} (hb : bad tl tm kl km k = true) (hg1 : w.heap.size ≤ g)
    (hg3 : ∃ c t, X.heap[g]? = some (.cells c t (0, 0))) (hg4 : ∀ i, i < n * 6 → X.cell? ⟨g, i, none⟩ = some (vcell (txr tl tm kl km k) (knr tl tm kl km k) i)) :
    Vals w (zap X g k) n tl tm kl km (k + 1) (.slice (some ⟨g, 0, none⟩) n cap) := by
  obtain ⟨c, t, hc⟩ := hg3
  have hrow : X.rowIs g t c.size (fun i => (c[i]?).getD undef) := ⟨c, hc, rfl, fun i hi => by simp [hi]⟩
  have hbd : ∀ i, i < n * 6 → i < c.size ∧ (c[i]?).getD undef = vcell (txr tl tm kl km k) (knr tl tm kl km k) i := by
    intro i hi
    have := hg4 i hi
    simp only [World.cell?, hc] at this
    have h2 : c[i]? = some (vcell (txr tl tm kl km k) (knr tl tm kl km k) i) := by simpa using this
    refine ⟨(Array.getElem?_eq_some_iff.1 h2).1, by rw [h2]; rfl⟩
  have hz : (zap X g k).rowIs g t c.size _ := (((((hrow.set (k * 6) (.string ⟨#[]⟩)).set (k * 6 + 1) (.bool false)).set (k * 6 + 2) (.bool false)).set (k * 6 + 3) (.bool false)).set (k * 6 + 4) (.int .i64 0)).set (k * 6 + 5) (.pointer none)
  refine .inr ⟨by simp [rs, hb], g, cap, rfl, hg1, hz.lt, ?_, ?_⟩
  · obtain ⟨c', h', _⟩ := hz
    exact ⟨c', t, h'⟩
  · intro i hi
    rw [hz.cell (hbd i hi).1]
    congr 1
    have hv := (hbd i hi).2
    have e0 : vcell (txr tl tm kl km (k + 1)) (knr tl tm kl km (k + 1)) (k * 6) = .string ⟨#[]⟩ := by rw [vcell0, txr_hit hb]; rfl
    have e1 : vcell (txr tl tm kl km (k + 1)) (knr tl tm kl km (k + 1)) (k * 6 + 1) = .bool false := by rw [vcell1, knr_hit hb]
    by_cases c5 : i = k * 6 + 5
    · subst c5; rw [if_pos rfl, vcell5]
    rw [if_neg c5]
    by_cases c4 : i = k * 6 + 4
    · subst c4; rw [if_pos rfl, vcell4]
    rw [if_neg c4]
    by_cases c3 : i = k * 6 + 3
    · subst c3; rw [if_pos rfl, vcell3]
    rw [if_neg c3]
    by_cases c2 : i = k * 6 + 2
    · subst c2; rw [if_pos rfl, vcell2]
    rw [if_neg c2]
    by_cases c1 : i = k * 6 + 1
    · subst c1; rw [if_pos rfl, e1]
    rw [if_neg c1]
    by_cases c0 : i = k * 6
    · subst c0; rw [if_pos rfl, e0]
    rw [if_neg c0, hv]
    have hne : i / 6 ≠ k := by omega
    exact vcell_congr (txr_other hne).symm (knr_other hne).symm

theorem clone_some (w : World) (b n cap : Nat) (tx : Nat → ByteArray) (kn : Nat → Bool) (hn : n ≤ 65536) (h0 : 0 < n) (hv : ∀ i, i < n * 6 → w.cell? ⟨b, i, none⟩ = some (vcell tx kn i)) :
    Calls Try.prog 41 #[.slice (some ⟨b, 0, none⟩) n cap] w fun e w' => ∃ g cap', e = .returned (.slice (some ⟨g, 0, none⟩) n cap') ∧ w.heap.size ≤ g ∧ g < w'.heap.size ∧ (∃ c t, w'.heap[g]? = some (.cells c t (0, 0))) ∧
      (∀ i, i < n * 6 → w'.cell? ⟨g, i, none⟩ = some (vcell tx kn i)) ∧ Below w.heap.size w w' := by
  refine (clone_calls w b n cap tx kn hn hv).mono ?_
  rintro e w' ⟨v', rfl, ⟨_, hown⟩, _, hb⟩
  rcases hown with ⟨_, h⟩ | ⟨g, cap', cur, rfl, hg, hblk, hc1, _, hc3, hc4⟩
  · omega
  · refine ⟨g, cap', rfl, hg, (Array.getElem?_eq_some_iff.1 hblk).1, ⟨cur, 58, hblk⟩, ?_, hb⟩
    intro i hi
    have h2 : (cur.toList.take (n * 6))[i]? = some (vcell tx kn i) := by rw [hc4]; exact vals_get hi
    rw [List.getElem?_take_of_lt hi] at h2
    simp only [World.cell?, hblk]
    simpa using h2

theorem vals_pick {tl tm : Nat → ByteArray} {kl km : Nat → Bool} {k : Nat} (hr : rs tl tm kl km k = false) (i : Nat) :
    vcell tl kl i = vcell (txr tl tm kl km k) (knr tl tm kl km k) i := vcell_congr (txr_none hr _).1.symm (txr_none hr _).2.symm

set_option maxHeartbeats 4000000 in
theorem alike_loop (w : World) (pl bl pm bm n cl cm : Nat) (tl tm : Nat → ByteArray) (kl km : Nat → Bool) (ol om : Int) (hl : IsList w pl bl n cl tl kl ol) (hm : IsList w pm bm n cm tm km om) (hne : bl ≠ bm) (hn : 0 < n) :
    Calls Try.prog 33 #[.pointer (some ⟨pl, 0, none⟩), .pointer (some ⟨pm, 0, none⟩)] w fun e w' =>
      ((rs tl tm kl km n = false ∧ e = .returned (.pointer (some ⟨pl, 0, none⟩))) ∨
       (rs tl tm kl km n = true ∧ ∃ p b cap, e = .returned (.pointer (some ⟨p, 0, none⟩)) ∧ w.heap.size ≤ p ∧ w.heap.size ≤ b ∧ IsList w' p b n cap (txr tl tm kl km n) (knr tl tm kl km n) (toldTo n tl tm kl km n))) ∧ Below w.heap.size w w' := by
  have h0 : ((n : Int) == 0) = false := by simp; omega
  have h1 : (0 : Int) < (n : Int) := by omega
  have hs := hl.small
  obtain ⟨i0, hi0, _, hi1, _⟩ := info58
  have hq : ∀ d, (binOp .eql 67 (.pointer (some ⟨bl, 0, none⟩)) (.pointer (some ⟨bm, 0, none⟩))).run Try.prog (w.drewN d) = .ok (.bool false) (w.drewN d) := by
    intro d
    obtain ⟨ca, ta, ha⟩ := hl.bblk
    obtain ⟨cb, tb, hb⟩ := hm.bblk
    exact run_eql_ptr_other (P := Try.prog) (w.drewN d) Try.underlying67 hi0 (by rw [hi1]; omega) (by intro e; cases e; exact hne rfl) ha hb
  clear hi0 hi1
  go_enter Try.func33, Try.ntmps33
  go_wp2_with fail
  refine (ls_some w pl bl n cl tl kl ol hl _ (Below.refl _ _)).mono ?_
  rintro e w1 ⟨rfl, rfl⟩
  go_wp2_with fail
  refine (ls_some w1 pm bm n cm tm km om hm _ (Below.refl _ _)).mono ?_
  rintro e w ⟨rfl, rfl⟩
  go_wp2_with fail
  go_quiet (fail)
  clear hq
  go_wp2_with fail
  go_loopw [7, 8, 37] (fun v t i wr => ∃ k : Nat, i = .int .i64 k ∧ k ≤ n ∧ t = .int .i64 (toldTo n tl tm kl km k) ∧ Vals w wr n tl tm kl km k v ∧ Below w.heap.size w wr) (fun _ _ i _ => n - (intOf i).toNat)
  case atStart => exact ⟨0, rfl, by omega, rfl, .inl ⟨rfl, rfl⟩, bel_draws (Below.refl _ _) _⟩
  case round =>
    obtain ⟨k, rfl, hk, rfl, hv, hbel⟩ := hrel
    by_cases hlt : k < n
    · have cv : ∀ i, i < n * 6 → wr.cell? ⟨bl, i, none⟩ = some (vcell tl kl i) := fun i hi => by rw [hbel.cell (p := ⟨bl, i, none⟩) hl.bold]; exact hl.vals i hi
      have cm' : ∀ i, i < n * 6 → wr.cell? ⟨bm, i, none⟩ = some (vcell tm km i) := fun i hi => by rw [hbel.cell (p := ⟨bm, i, none⟩) hm.bold]; exact hm.vals i hi
      have l0 : wr.cell? ⟨bl, k * 6, none⟩ = some (.string (tl k)) := by rw [cv _ (by omega), vcell0]
      have l1 : wr.cell? ⟨bl, k * 6 + 1, none⟩ = some (.bool (kl k)) := by rw [cv _ (by omega), vcell1]
      have l2 : wr.cell? ⟨bl, k * 6 + 2, none⟩ = some (.bool false) := by rw [cv _ (by omega), vcell2]
      have l3 : wr.cell? ⟨bl, k * 6 + 3, none⟩ = some (.bool false) := by rw [cv _ (by omega), vcell3]
      have l4 : wr.cell? ⟨bl, k * 6 + 4, none⟩ = some (.int .i64 0) := by rw [cv _ (by omega), vcell4]
      have l5 : wr.cell? ⟨bl, k * 6 + 5, none⟩ = some (.pointer none) := by rw [cv _ (by omega), vcell5]
      have m0 : wr.cell? ⟨bm, k * 6, none⟩ = some (.string (tm k)) := by rw [cm' _ (by omega), vcell0]
      have m1 : wr.cell? ⟨bm, k * 6 + 1, none⟩ = some (.bool (km k)) := by rw [cm' _ (by omega), vcell1]
      have o1 : bl < wr.heap.size := Nat.lt_of_lt_of_le hl.bold hbel.size
      have o2 : bm < wr.heap.size := Nat.lt_of_lt_of_le hm.bold hbel.size
      clear cv cm'
      have hi := idx56 bl n cl k hlt
      have hi2 := idx56 bm n cm k hlt
      cases hkl : kl k
      · rw [hkl] at l1
        have HA : Hid (ag tl tm kl km k = false ∧ bad tl tm kl km k = false) := by simp [Hid, ag, bad, hkl]
        have HV := hv
        have HVH : Hid (Vals w wr n tl tm kl km k u7) := HV
        clear hv HV
        go_wp2_with fail
        go_quiet (fail)
        go_wp2_with fail
        go_roundw
        case rel => exact ⟨k + 1, by go_num, by omega, told_bad HA.out.1, vals_skip HVH.out HA.out.2 _ _, bel_draws (hbel.alloc hbel.size _) _⟩
        case measure => simp [intOf]; omega
      · rw [hkl] at l1
        cases hkm : km k
        · rw [hkm] at m1
          have HA : Hid (ag tl tm kl km k = false ∧ bad tl tm kl km k = true) := by simp [Hid, ag, bad, hkl, hkm]
          have C := fun (X : World) (hX : Below wr.heap.size wr X) => clone_some X bl n cl tl kl hs hn (fun i hi => by rw [hX.cell (p := ⟨bl, i, none⟩) o1, hbel.cell (p := ⟨bl, i, none⟩) hl.bold]; exact hl.vals i hi)
          rcases hv with ⟨hr, rfl⟩ | ⟨hr, g, cap, rfl, hg1, hg2, hg3, hg4⟩
          · have HRS : Hid (rs tl tm kl km k = false) := hr
            clear hr
            have hq56 := fun (w : World) => Lib.run_eql_slice_nil (P := Try.prog) w 56 58 none 0 0 0 0 Try.underlying56
            go_wp2_with fail
            go_quiet (fail)
            go_wp2_with fail
            refine (C _ (bel_draws ((Below.refl _ _).alloc (Nat.le_refl _) _) _)).mono ?_
            rintro e w1 ⟨g, cap', rfl, hg1, hg2, hg3, hg4, hb1⟩
            simp only [World.heap_drewN, World.size_alloc] at hg1
            have hbw : Hid (Below w.heap.size w w1) := (bel_draws (hbel.alloc hbel.size _) _).trans (hb1.mono (by simp; have := hbel.size; omega))
            have hgw : Hid (w.heap.size ≤ g) := by have := hbel.size; show w.heap.size ≤ g; omega
            have HG3 : Hid (∃ c t, w1.heap[g]? = some (.cells c t (0, 0))) := hg3
            have HG4 : Hid (∀ i, i < n * 6 → w1.cell? ⟨g, i, none⟩ = some (vcell (txr tl tm kl km k) (knr tl tm kl km k) i)) := fun i hi => by rw [hg4 i hi]; exact congrArg some (vals_pick HRS.out i)
            have hi3 := idx56 g n cap' k hlt
            have v0 : w1.cell? ⟨g, k * 6, none⟩ = some (.string (tl k)) := by rw [hg4 _ (by omega), vcell0]
            have v1 : w1.cell? ⟨g, k * 6 + 1, none⟩ = some (.bool (kl k)) := by rw [hg4 _ (by omega), vcell1]
            have v2 : w1.cell? ⟨g, k * 6 + 2, none⟩ = some (.bool false) := by rw [hg4 _ (by omega), vcell2]
            have v3 : w1.cell? ⟨g, k * 6 + 3, none⟩ = some (.bool false) := by rw [hg4 _ (by omega), vcell3]
            have v4 : w1.cell? ⟨g, k * 6 + 4, none⟩ = some (.int .i64 0) := by rw [hg4 _ (by omega), vcell4]
            have v5 : w1.cell? ⟨g, k * 6 + 5, none⟩ = some (.pointer none) := by rw [hg4 _ (by omega), vcell5]
            have hfz : ∀ i, w1.frozen? ⟨g, i, none⟩ = false := by
              obtain ⟨c, t, hc⟩ := hg3
              intro i; simp [World.frozen?, hc]
            clear hg3 hg4 hb1 C l0 l1 l2 l3 l4 l5 m0 m1
            go_wp2_with fail
            go_roundw
            case rel => exact ⟨k + 1, by go_num, by omega, told_bad HA.out.1, zap_vals HA.out.2 hgw.out HG3.out HG4.out, zap_below hbw.out hgw.out⟩
            case measure => simp [intOf]; omega
          · have hq56 := fun (w : World) => Lib.run_eql_slice_nil (P := Try.prog) w 56 58 (some ⟨g, 0, none⟩) n cap 0 0 Try.underlying56
            have hi3 := idx56 g n cap k hlt
            have v0 : wr.cell? ⟨g, k * 6, none⟩ = some (.string (txr tl tm kl km k k)) := by rw [hg4 _ (by omega), vcell0]
            have v1 : wr.cell? ⟨g, k * 6 + 1, none⟩ = some (.bool (knr tl tm kl km k k)) := by rw [hg4 _ (by omega), vcell1]
            have v2 : wr.cell? ⟨g, k * 6 + 2, none⟩ = some (.bool false) := by rw [hg4 _ (by omega), vcell2]
            have v3 : wr.cell? ⟨g, k * 6 + 3, none⟩ = some (.bool false) := by rw [hg4 _ (by omega), vcell3]
            have v4 : wr.cell? ⟨g, k * 6 + 4, none⟩ = some (.int .i64 0) := by rw [hg4 _ (by omega), vcell4]
            have v5 : wr.cell? ⟨g, k * 6 + 5, none⟩ = some (.pointer none) := by rw [hg4 _ (by omega), vcell5]
            have hfz : ∀ i, wr.frozen? ⟨g, i, none⟩ = false := by
              obtain ⟨c, t, hc⟩ := hg3
              intro i; simp [World.frozen?, hc]
            have HG3 : Hid (∃ c t, wr.heap[g]? = some (.cells c t (0, 0))) := hg3
            have HG4 : Hid (∀ i, i < n * 6 → wr.cell? ⟨g, i, none⟩ = some (vcell (txr tl tm kl km k) (knr tl tm kl km k) i)) := hg4
            clear hg3 hg4 C hr
            go_wp2_with fail
            go_quiet (fail)
            go_wp2_with fail
            go_roundw
            case rel =>
              refine ⟨k + 1, by go_num, by omega, told_bad HA.out.1, zap_vals HA.out.2 hg1 ?_ ?_, zap_below (bel_draws (hbel.alloc hbel.size _) _) hg1⟩
              · obtain ⟨c, t, hc⟩ := HG3.out
                exact ⟨c, t, by show (wr.alloc _).heap[g]? = _; rw [Go.Deep.blk_alloc_lt _ _ _ hg2]; exact hc⟩
              · intro i hi
                show (wr.alloc _).cell? ⟨g, i, none⟩ = _
                rw [World.cell?_of_block (w := wr) (Go.Deep.blk_alloc_lt _ _ _ hg2)]
                exact HG4.out i hi
            case measure => simp [intOf]; omega
        · rw [hkm] at m1
          by_cases htx : tl k = tm k
          · have HA : Hid (ag tl tm kl km k = true ∧ bad tl tm kl km k = false) := by simp [Hid, ag, bad, hkl, hkm, htx]
            rw [← htx] at m0
            have HVH : Hid (Vals w wr n tl tm kl km k u7) := hv
            clear hv htx
            go_wp2_with fail
            go_quiet (fail)
            go_wp2_with fail
            go_roundw
            case rel => exact ⟨k + 1, by go_num, by omega, told_good HA.out.1, vals_skip HVH.out HA.out.2 _ _, bel_draws (hbel.alloc hbel.size _) _⟩
            case measure => simp [intOf]; omega
          · have HA : Hid (ag tl tm kl km k = false ∧ bad tl tm kl km k = true) := by simp [Hid, ag, bad, hkl, hkm, htx]
            have htx' := str_ne htx
            have C := fun (X : World) (hX : Below wr.heap.size wr X) => clone_some X bl n cl tl kl hs hn (fun i hi => by rw [hX.cell (p := ⟨bl, i, none⟩) o1, hbel.cell (p := ⟨bl, i, none⟩) hl.bold]; exact hl.vals i hi)
            rcases hv with ⟨hr, rfl⟩ | ⟨hr, g, cap, rfl, hg1, hg2, hg3, hg4⟩
            · have HRS : Hid (rs tl tm kl km k = false) := hr
              clear hr
              have hq56 := fun (w : World) => Lib.run_eql_slice_nil (P := Try.prog) w 56 58 none 0 0 0 0 Try.underlying56
              go_wp2_with fail
              go_quiet (fail)
              go_wp2_with fail
              refine (C _ (bel_draws ((Below.refl _ _).alloc (Nat.le_refl _) _) _)).mono ?_
              rintro e w1 ⟨g, cap', rfl, hg1, hg2, hg3, hg4, hb1⟩
              simp only [World.heap_drewN, World.size_alloc] at hg1
              have hbw : Hid (Below w.heap.size w w1) := (bel_draws (hbel.alloc hbel.size _) _).trans (hb1.mono (by simp; have := hbel.size; omega))
              have hgw : Hid (w.heap.size ≤ g) := by have := hbel.size; show w.heap.size ≤ g; omega
              have HG3 : Hid (∃ c t, w1.heap[g]? = some (.cells c t (0, 0))) := hg3
              have HG4 : Hid (∀ i, i < n * 6 → w1.cell? ⟨g, i, none⟩ = some (vcell (txr tl tm kl km k) (knr tl tm kl km k) i)) := fun i hi => by rw [hg4 i hi]; exact congrArg some (vals_pick HRS.out i)
              have hi3 := idx56 g n cap' k hlt
              have v0 : w1.cell? ⟨g, k * 6, none⟩ = some (.string (tl k)) := by rw [hg4 _ (by omega), vcell0]
              have v1 : w1.cell? ⟨g, k * 6 + 1, none⟩ = some (.bool (kl k)) := by rw [hg4 _ (by omega), vcell1]
              have v2 : w1.cell? ⟨g, k * 6 + 2, none⟩ = some (.bool false) := by rw [hg4 _ (by omega), vcell2]
              have v3 : w1.cell? ⟨g, k * 6 + 3, none⟩ = some (.bool false) := by rw [hg4 _ (by omega), vcell3]
              have v4 : w1.cell? ⟨g, k * 6 + 4, none⟩ = some (.int .i64 0) := by rw [hg4 _ (by omega), vcell4]
              have v5 : w1.cell? ⟨g, k * 6 + 5, none⟩ = some (.pointer none) := by rw [hg4 _ (by omega), vcell5]
              have hfz : ∀ i, w1.frozen? ⟨g, i, none⟩ = false := by
                obtain ⟨c, t, hc⟩ := hg3
                intro i; simp [World.frozen?, hc]
              clear hg3 hg4 hb1 C l0 l1 l2 l3 l4 l5 m0 m1
              go_wp2_with fail
              go_roundw
              case rel => exact ⟨k + 1, by go_num, by omega, told_bad HA.out.1, zap_vals HA.out.2 hgw.out HG3.out HG4.out, zap_below hbw.out hgw.out⟩
              case measure => simp [intOf]; omega
            · have hq56 := fun (w : World) => Lib.run_eql_slice_nil (P := Try.prog) w 56 58 (some ⟨g, 0, none⟩) n cap 0 0 Try.underlying56
              have hi3 := idx56 g n cap k hlt
              have v0 : wr.cell? ⟨g, k * 6, none⟩ = some (.string (txr tl tm kl km k k)) := by rw [hg4 _ (by omega), vcell0]
              have v1 : wr.cell? ⟨g, k * 6 + 1, none⟩ = some (.bool (knr tl tm kl km k k)) := by rw [hg4 _ (by omega), vcell1]
              have v2 : wr.cell? ⟨g, k * 6 + 2, none⟩ = some (.bool false) := by rw [hg4 _ (by omega), vcell2]
              have v3 : wr.cell? ⟨g, k * 6 + 3, none⟩ = some (.bool false) := by rw [hg4 _ (by omega), vcell3]
              have v4 : wr.cell? ⟨g, k * 6 + 4, none⟩ = some (.int .i64 0) := by rw [hg4 _ (by omega), vcell4]
              have v5 : wr.cell? ⟨g, k * 6 + 5, none⟩ = some (.pointer none) := by rw [hg4 _ (by omega), vcell5]
              have hfz : ∀ i, wr.frozen? ⟨g, i, none⟩ = false := by
                obtain ⟨c, t, hc⟩ := hg3
                intro i; simp [World.frozen?, hc]
              have HG3 : Hid (∃ c t, wr.heap[g]? = some (.cells c t (0, 0))) := hg3
              have HG4 : Hid (∀ i, i < n * 6 → wr.cell? ⟨g, i, none⟩ = some (vcell (txr tl tm kl km k) (knr tl tm kl km k) i)) := hg4
              clear hg3 hg4 C hr
              go_wp2_with fail
              go_quiet (fail)
              go_wp2_with fail
              go_roundw
              case rel =>
                refine ⟨k + 1, by go_num, by omega, told_bad HA.out.1, zap_vals HA.out.2 hg1 ?_ ?_, zap_below (bel_draws (hbel.alloc hbel.size _) _) hg1⟩
                · obtain ⟨c, t, hc⟩ := HG3.out
                  exact ⟨c, t, by show (wr.alloc _).heap[g]? = _; rw [Go.Deep.blk_alloc_lt _ _ _ hg2]; exact hc⟩
                · intro i hi
                  show (wr.alloc _).cell? ⟨g, i, none⟩ = _
                  rw [World.cell?_of_block (w := wr) (Go.Deep.blk_alloc_lt _ _ _ hg2)]
                  exact HG4.out i hi
              case measure => simp [intOf]; omega
    · have hkn : n = k := by omega
      have HK : Hid (n = k) := hkn
      rcases hv with ⟨hr, rfl⟩ | ⟨hr, g, cap, rfl, hg1, hg2, hg3, hg4⟩
      · have hq56 := fun (w : World) => Lib.run_eql_slice_nil (P := Try.prog) w 56 58 none 0 0 0 0 Try.underlying56
        clear hkn
        go_wp2_with fail
        go_ret
        exact ⟨.inl ⟨by rw [HK.out]; exact hr, rfl⟩, hbel⟩
      · have hq56 := fun (w : World) => Lib.run_eql_slice_nil (P := Try.prog) w 56 58 (some ⟨g, 0, none⟩) n cap 0 0 Try.underlying56
        clear hkn
        go_wp2_with fail
        go_ret
        refine ⟨.inr ⟨by rw [HK.out]; exact hr, wr.heap.size, g, cap, rfl, hbel.size, hg1, ?_⟩, hbel.alloc hbel.size _⟩
        rw [← HK.out] at hg4 ⊢
        exact fin_list hs hg2 hg3 hg4
end Go.Proofs.Qxb6600630a
