/-
  The law of 'unlink', walked.
-/
import Derived.Test.Qxb6600971aSeen
namespace Go.Proofs.Qxb6600971a
open Go.RowKit Go.Deep

theorem st_born (w : World) : ST (w.alloc (.cells #[.map none, .pointer none, .pointer none, .int .i64 0, .int .i64 0] 32)) w.heap.size none [] (fun _ => none) 0 w.heap.size := by
  have hrow := World.rowIs_alloc w #[.map none, .pointer none, .pointer none, .int .i64 0, .int .i64 0] 32 (rcell none nil nil 0 0) (by
    intro i hi
    have : i = 0 ∨ i = 1 ∨ i = 2 ∨ i = 3 ∨ i = 4 := by simp at hi; omega
    rcases this with rfl | rfl | rfl | rfl | rfl <;> rfl)
  refine ⟨⟨hrow, trivial, by simp⟩, ⟨fun _ => rfl, rfl⟩, (fun c hc => by cases hc), fun _ _ => rfl, ?_, by simp⟩
  rintro k ((rfl | ⟨x, hx, _⟩) | hk)
  · exact Nat.le_refl _
  · cases hx
  · cases hk

theorem str_ne {a b : ByteArray} (h : ¬ a = b) : (a.toList == b.toList) = false := by
  rw [ByteArray.toList_eq, ByteArray.toList_eq]
  apply beq_eq_false_iff_ne.2
  intro e
  apply h
  apply ByteArray.ext
  exact Array.ext' e
theorem str_eq {a b : ByteArray} (h : (a.toList == b.toList) = true) : a = b := by
  by_cases e : a = b
  · exact e
  · rw [str_ne e] at h; cases h

theorem zzunlink_calls (w : World) (r : Nat) (mo : Option Nat) (A Z : List Cl) (now peak : Int) (c : Cl) (h : LS w r mo (A ++ c :: Z) now peak) :
    Calls Try.prog 22 #[ptr r, ptr c.blk] w fun e w' => e = .returned (.tuple #[]) ∧ LS w' r mo (A ++ Z) now peak ∧ Node w' c nil nil ∧ Turn (Mine r (A ++ c :: Z)) w w' := by
  have P := unlink_calls w r mo A Z now peak c h
  clear h
  go_enter Try.func22, Try.ntmps22
  go_wp2_with fail
  refine P.mono ?_
  rintro e w' ⟨rfl, h1⟩
  have HH : Hid (LS w' r mo (A ++ Z) now peak ∧ Node w' c nil nil ∧ Turn (Mine r (A ++ c :: Z)) w w') := h1
  clear P h1
  go_wp2_with fail
  go_end0
  exact ⟨rfl, HH.out⟩

/-- the state behind 'recordAll', with the client that is asked for -/
theorem found_at {w1 w2 : World} {mo : Option Nat} {L : List Cl} {M : ByteArray → Option Nat} {now : Int} {f : Nat → St} {n : Nat} {s : ByteArray} (hst : ST w2 w1.heap.size mo L M now w1.heap.size) (hL : L.map Cl.dat = recs f n) (hq : ∃ j, j < n ∧ (f j).id = s) :
    ∃ A c Z, L = A ++ c :: Z ∧ c.id = s ∧ M s = some c.blk := by
  obtain ⟨j, hj, rfl⟩ := hq
  obtain ⟨e, he, hid⟩ := recs_has f n j hj
  rw [← hL] at he
  obtain ⟨c, hc, rfl⟩ := List.mem_map.1 he
  obtain ⟨A, Z, rfl⟩ := List.append_of_mem hc
  exact ⟨A, c, Z, rfl, hid, by rw [← hid]; exact (hst.found c hc).1⟩

set_option maxRecDepth 100000 in
set_option maxHeartbeats 4000000 in
theorem law5 (w : World) (a : Option Addr) (n cap b off : Nat) (f : Nat → St) (s : ByteArray) (h : RdS w a n cap b off f) (hs : s.size ≤ maxLen) :
    Calls Try.prog 5 #[.slice a n cap, .string s] w fun e w' => e = .returned (.bool true) ∧ Below w.heap.size w w' := by
  have hsm := h.small
  have hs9 := hs
  unfold maxLen at hsm hs9
  have H : Hid (RdS w a n cap b off f) := h
  clear h
  go_enter Try.func5, Try.ntmps5
  go_wp2_with fail
  refine (zz20_calls w a n cap b off f s H.out hs).mono ?_
  rintro e w' ⟨rfl | rfl, hw⟩ <;> obtain rfl := hw.symm
  · go_wp2_with fail
    go_ret
    exact ⟨rfl, Below.refl _ _⟩
  by_cases hn : n ≤ 4096
  case neg =>
    go_wp2_with fail
    go_ret
    exact ⟨rfl, Below.refl _ _⟩
  by_cases hl : s.size ≤ 1048576
  case neg =>
    go_wp2_with fail
    go_ret
    exact ⟨rfl, Below.refl _ _⟩
  go_wp2_with fail
  refine (stepsBytes_calls w a n cap b off f H.out).mono ?_
  rintro e w' ⟨rfl | ⟨_, z, rfl, hz0, hz1⟩, hw⟩ <;> obtain rfl := hw.symm
  · go_wp2_with fail
    go_ret
    exact ⟨rfl, Below.refl _ _⟩
  by_cases hz : (s.size : Int) ≤ 1048576 - z
  case neg =>
    go_wp2_with fail
    go_ret
    exact ⟨rfl, Below.refl _ _⟩
  go_wp2_with fail
  go_loop [7, 44] (fun v i => ∃ (k : Nat) (q : Bool), i = .int .i64 k ∧ v = .bool q ∧ k ≤ n ∧ Hid (q = true → ∃ j, j < n ∧ (f j).id = s)) (fun _ i => n - (intOf i).toNat)
  case atStart => exact ⟨0, false, rfl, rfl, by omega, fun e => by cases e⟩
  case round =>
    obtain ⟨k, q, rfl, rfl, hk, hq⟩ := hrel
    by_cases hlt : k < n
    · have hc := (H.out.cells hlt).1
      have hi := H.out.idx k hlt
      go_wp2_with fail
      · rename_i hse
        go_round
        case rel => exact ⟨k + 1, true, by go_num, rfl, by omega, fun _ => ⟨k, hlt, str_eq hse⟩⟩
        case measure => simp [intOf]; omega
      · go_round
        case rel => exact ⟨k + 1, q, by go_num, rfl, by omega, hq⟩
        case measure => simp [intOf]; omega
    · cases q
      · go_wp2_with fail
        go_ret
        exact ⟨rfl, Below.refl _ _⟩
      have HQ : Hid (∃ j, j < n ∧ (f j).id = s) := hq.out rfl
      clear hq
      go_wp2_with fail
      refine (cloneSteps_calls w a n cap b off f H.out (by omega)).mono ?_
      rintro e w1 ⟨a', cap', b', rfl, hr1, hb', hbel1⟩
      have HR1 : Hid (RdS w1 a' n cap' b' 0 f ∧ w.heap.size ≤ b' ∧ Below w.heap.size w w1) := ⟨hr1, hb', hbel1⟩
      clear hr1 hb' hbel1
      go_wp2_with fail
      have hb1 : b' < w1.heap.size := by
        obtain ⟨j, hj, _⟩ := HQ.out
        exact HR1.out.1.old j hj
      refine (recordAll_calls _ w1.heap.size a' n cap' b' 0 w1.heap.size f (HR1.out.1.keep ((Below.refl _ _).alloc (Nat.le_refl _) _)) (by omega) (.inr hb1) (st_born w1)).mono ?_
      rintro e w2 ⟨rfl, hb2, mo, L, M, now, hst, hL⟩
      obtain ⟨A, c, Z, rfl, hcs, hMs⟩ := found_at hst hL HQ.out
      have hlen : (A ++ c :: Z).length ≤ n := by
        have e1 := congrArg List.length hL
        rw [List.length_map] at e1
        have e2 := recs_len f n
        omega
      have HS : Hid (ST w2 w1.heap.size mo (A ++ c :: Z) M now w1.heap.size ∧ Below w.heap.size w w2 ∧ (A ++ c :: Z).length ≤ n ∧ c.id = s) :=
        ⟨hst, HR1.out.2.2.trans ((((Below.refl _ _).alloc (Nat.le_refl _) _).trans hb2).mono HR1.out.2.2.size), hlen, hcs⟩
      clear hst hb2 hL hlen hcs
      go_wp2_with fail
      refine (lookup_calls _ w1.heap.size mo _ _ now _ HS.out.1.ls.rq M _ HS.out.1.map s hs).mono ?_
      rintro e w' ⟨rfl, hw⟩
      obtain rfl := hw.symm
      rw [hMs]
      unfold ptrO ptr
      go_wp2_with fail
      refine (seen_calls _ w1.heap.size mo (A ++ c :: Z) M _ now _ _ HS.out.1.ls HS.out.1.map HS.out.1.found ?_ ?_).mono ?_
      · have := HS.out.2.2.1; omega
      · omega
      rintro e w3 ⟨a1, c1, g1, rfl, hc1, hb3⟩
      have H1 : Hid (Cols w3 (A ++ c :: Z) (w2.heap.size + 2) a1 c1 g1 ∧ Below w2.heap.size w2 w3) := ⟨hc1, hb3⟩
      clear hc1 hb3
      obtain ⟨n1, hn1⟩ : ∃ n1, n1 = (A ++ c :: Z).length := ⟨_, rfl⟩
      rw [← hn1]
      have HN1 : Hid (n1 = (A ++ c :: Z).length) := hn1
      clear hn1
      go_wp2_with fail
      have hbX : Below w2.heap.size w2 (w3.alloc (.cells #[.slice (a1 0) n1 (c1 0), .slice (a1 1) n1 (c1 1), .slice (a1 2) n1 (c1 2), .slice (a1 3) n1 (c1 3), .slice (a1 4) n1 (c1 4)] 48)) := H1.out.2.alloc H1.out.2.size _
      have hX := HS.out.1.keep hbX
      have HX : Hid (ST (w3.alloc (.cells #[.slice (a1 0) n1 (c1 0), .slice (a1 1) n1 (c1 1), .slice (a1 2) n1 (c1 2), .slice (a1 3) n1 (c1 3), .slice (a1 4) n1 (c1 4)] 48)) w1.heap.size mo (A ++ c :: Z) M now w1.heap.size) := hX
      have HBX : Hid (Below w2.heap.size w2 (w3.alloc (.cells #[.slice (a1 0) n1 (c1 0), .slice (a1 1) n1 (c1 1), .slice (a1 2) n1 (c1 2), .slice (a1 3) n1 (c1 3), .slice (a1 4) n1 (c1 4)] 48))) := hbX
      clear hbX hX
      refine (count_calls _ w1.heap.size mo _ _ now _ HX.out.ls.rq M _ HX.out.map).mono ?_
      rintro e w' ⟨rfl, hw⟩
      obtain rfl := hw
      rw [← HN1.out]
      go_wp2_with fail
      refine (zzunlink_calls _ w1.heap.size mo A Z now _ c HX.out.ls).mono ?_
      rintro e w5 ⟨rfl, hls5, hnd5, ht5⟩
      have hmap5 : MapIs w5 mo M (A ++ c :: Z).length := HX.out.map.of_block (fun mb e => by subst e; exact ht5.block mb HX.out.map.lt (not_mine HX.out.ls HX.out.map))
      have H5 : Hid (LS w5 w1.heap.size mo (A ++ Z) now ((A ++ c :: Z).length : Nat) ∧ MapIs w5 mo M (A ++ c :: Z).length ∧ Node w5 c nil nil ∧ Turn (Mine w1.heap.size (A ++ c :: Z)) (w3.alloc (.cells #[.slice (a1 0) n1 (c1 0), .slice (a1 1) n1 (c1 1), .slice (a1 2) n1 (c1 2), .slice (a1 3) n1 (c1 3), .slice (a1 4) n1 (c1 4)] 48)) w5) := ⟨hls5, hmap5, hnd5, ht5⟩
      clear hls5 hnd5 ht5 hmap5
      go_wp2_with fail
      refine (seen_calls _ w1.heap.size mo (A ++ Z) M _ now _ _ H5.out.1 H5.out.2.1 (fun x hx => HS.out.1.found x (by simp at hx ⊢; rcases hx with g | g; exact .inl g; exact .inr (.inr g))) ?_ ?_).mono ?_
      · have := HS.out.2.2.1
        simp at this ⊢
        omega
      · omega
      rintro e w6 ⟨a2, c2, g2, rfl, hc2, hb6⟩
      have H6 : Hid (Cols w6 (A ++ Z) (w5.heap.size + 2) a2 c2 g2 ∧ Below w5.heap.size w5 w6) := ⟨hc2, hb6⟩
      clear hc2 hb6
      obtain ⟨n2, hn2⟩ : ∃ n2, n2 = (A ++ Z).length := ⟨_, rfl⟩
      rw [← hn2]
      have HN2 : Hid (n2 = (A ++ Z).length) := hn2
      clear hn2
      have hn12 : n2 + 1 = n1 := by
        rw [HN1.out, HN2.out]; simp; omega
      have hn9 : n1 ≤ 4096 := by
        have := HS.out.2.2.1
        rw [← HN1.out] at this
        omega
      subst hn12
      have hnm : ¬ Mine w1.heap.size (A ++ c :: Z) w3.heap.size := fun g => by
        have h1 := HS.out.1.ls.lt _ g
        have h2 := H1.out.2.size
        omega
      have hlt5 : w3.heap.size < w5.heap.size := Nat.lt_of_lt_of_le (by simp) H5.out.2.2.2.size
      have hB : w6.heap[w3.heap.size]? = some (.cells #[.slice (a1 0) (n2 + 1) (c1 0), .slice (a1 1) (n2 + 1) (c1 1), .slice (a1 2) (n2 + 1) (c1 2), .slice (a1 3) (n2 + 1) (c1 3), .slice (a1 4) (n2 + 1) (c1 4)] 48) := by
        rw [H6.out.2.block _ hlt5, H5.out.2.2.2.block _ (by simp) hnm]
        exact blk_alloc_new w3 _
      have p0 : w6.cell? ⟨w3.heap.size, 0, none⟩ = some (.slice (a1 0) (n2 + 1) (c1 0)) := by simp [World.cell?, hB]
      have p1 : w6.cell? ⟨w3.heap.size, 1, none⟩ = some (.slice (a1 1) (n2 + 1) (c1 1)) := by simp [World.cell?, hB]
      have p4 : w6.cell? ⟨w3.heap.size, 4, none⟩ = some (.slice (a1 4) (n2 + 1) (c1 4)) := by simp [World.cell?, hB]
      have hlt6 : w3.heap.size < w6.heap.size := Nat.lt_of_lt_of_le hlt5 H6.out.2.size
      have HC1 : Hid (Cols w6 (A ++ c :: Z) (w2.heap.size + 2) a1 c1 g1) := by
        refine H1.out.1.later (fun k hk hk2 => ?_) (Nat.le_of_lt hlt6)
        have hk5 : k < w5.heap.size := by omega
        rw [H6.out.2.block k hk5, H5.out.2.2.2.block k (by simp; omega) (fun g => by
          have h1 := HS.out.1.ls.lt _ g
          omega)]
        exact blk_alloc_lt _ _ _ hk2
      clear hB hnm hlt5
      go_wp2_with fail
      go_loopw [14, 99] (fun jv iv wq => ∃ i d : Nat, iv = .int .i64 i ∧ jv = .int .i64 ((if i ≤ A.length then i else i - 1 : Nat) : Int) ∧ i ≤ n2 + 1 ∧ wq = (w6.alloc (.cells #[.slice (a2 0) n2 (c2 0), .slice (a2 1) n2 (c2 1), .slice (a2 2) n2 (c2 2), .slice (a2 3) n2 (c2 3), .slice (a2 4) n2 (c2 4)] 48)).drewN d) (fun _ iv _ => n2 + 1 - (intOf iv).toNat)
      case atStart => exact ⟨0, 0, rfl, by simp, by omega, rfl⟩
      case round =>
        obtain ⟨i, d, rfl, rfl, hi, rfl⟩ := hrel
        have hA : A.length ≤ n2 := by rw [HN2.out]; simp
        obtain ⟨jj, hjj⟩ : ∃ jj, jj = (if i ≤ A.length then i else i - 1) := ⟨_, rfl⟩
        rw [← hjj]
        have HJ : Hid (jj = (if i ≤ A.length then i else i - 1)) := hjj
        have HA : Hid (A.length ≤ n2) := hA
        clear hjj hA
        by_cases hlt' : i < n2 + 1
        · have hiL : i < (A ++ c :: Z).length := by rw [← HN1.out]; exact hlt'
          have i0 := (HC1.out.col 0 (by omega)).idx i hiL
          have d0 := HC1.out.at hiL 0 (by omega)
          rw [← HN1.out] at i0
          simp only [show cty 0 = 44 from rfl] at i0
          have hl0 := (HC1.out.col 0 (by omega)).old (by omega)
          by_cases hiA : i = A.length
          · have hxs : vdat 0 (A ++ c :: Z)[i] = .string s := by
              rw [← HS.out.2.2.2]
              subst hiA
              simp [vdat]
            rw [hxs] at d0
            have HIA : Hid (i = A.length) := hiA
            clear hiA hxs hiL
            go_wp2_with fail
            go_roundw
            case rel =>
              refine ⟨i + 1, d, by go_num, ?_, by omega, rfl⟩
              have h1 := HJ.out
              have h2 := HIA.out
              rw [if_pos (by omega)] at h1
              rw [if_neg (by omega), h1]
              simp
            case measure => simp [intOf]; omega
          · obtain ⟨x, hx⟩ : ∃ x, x = (A ++ c :: Z)[i] := ⟨_, rfl⟩
            have hg := gone_at hiL hiA
            have hjj : (if i < A.length then i else i - 1) = jj := by
              rw [HJ.out]
              by_cases q : i < A.length
              · rw [if_pos q, if_pos (by omega)]
              · rw [if_neg q, if_neg (by omega)]
            rw [hjj, List.getElem?_eq_getElem hiL, ← hx] at hg
            obtain ⟨hjL, hxj⟩ := List.getElem?_eq_some_iff.1 hg
            have i1 := (HC1.out.col 1 (by omega)).idx i hiL
            have d1 := HC1.out.at hiL 1 (by omega)
            have i4 := (HC1.out.col 4 (by omega)).idx i hiL
            have d4 := HC1.out.at hiL 4 (by omega)
            have hl1 := (HC1.out.col 1 (by omega)).old (by omega)
            have hl4 := (HC1.out.col 4 (by omega)).old (by omega)
            have k0 := (H6.out.1.col 0 (by omega)).idx jj hjL
            have k1 := (H6.out.1.col 1 (by omega)).idx jj hjL
            have k4 := (H6.out.1.col 4 (by omega)).idx jj hjL
            have e0 := H6.out.1.at hjL 0 (by omega)
            have e1 := H6.out.1.at hjL 1 (by omega)
            have e4 := H6.out.1.at hjL 4 (by omega)
            have m0 := (H6.out.1.col 0 (by omega)).old (by omega)
            have m1 := (H6.out.1.col 1 (by omega)).old (by omega)
            have m4 := (H6.out.1.col 4 (by omega)).old (by omega)
            rw [← HN1.out] at i1 i4
            rw [← HN2.out] at k0 k1 k4
            rw [hxj] at e0 e1 e4
            rw [← hx] at d0 d1 d4
            simp only [show cty 0 = 44 from rfl, show cty 1 = 45 from rfl, show cty 4 = 46 from rfl] at i1 i4 k0 k1 k4
            simp only [show vdat 0 x = .string x.id from rfl, show vdat 1 x = .int .u64 x.seq from rfl, show vdat 4 x = .int .i64 x.tm from rfl] at d0 d1 d4 e0 e1 e4
            have hne : (x.id.toList == s.toList) = false := by
              refine str_ne ?_
              rw [hx, ← HS.out.2.2.2]
              obtain ⟨q1, q2⟩ := ids_ne HS.out.1
              by_cases q : i < A.length
              · rw [List.getElem_append_left q]
                exact q1 _ (List.getElem_mem q)
              · rw [List.getElem_append_right (by omega)]
                obtain ⟨t, ht⟩ : ∃ t, i - A.length = t + 1 := ⟨i - A.length - 1, by omega⟩
                simp only [ht, List.getElem_cons_succ]
                exact q2 _ (List.getElem_mem _)
            have hj1 : (jj : Int) < (n2 : Int) := by
              have := HN2.out
              omega
            have hj2 : decide ((n2 : Int) ≤ (jj : Int)) = false := by simp; omega
            have hj3 : ¬ ((n2 : Int) ≤ (jj : Int)) := by omega
            have hj4 : ¬ (n2 ≤ jj) := by omega
            have hj5 : decide (n2 ≤ jj) = false := by simp; omega
            have hj0 : (0 : Int) ≤ (jj : Int) := by omega
            have hi0 : (0 : Int) ≤ (i : Int) := by omega
            have HIA : Hid (i ≠ A.length) := hiA
            clear hiA hx hg hxj hjj hiL hjL
            go_wp2_with fail
            go_quiet (fail)
            go_wp2_with fail
            go_roundw
            case rel =>
              refine ⟨i + 1, _, by go_num, ?_, by omega, rfl⟩
              have h1 := HJ.out
              have h2 := HIA.out
              by_cases q : i < A.length
              · rw [if_pos (by omega)] at h1
                rw [if_pos (by omega), h1]; simp
              · rw [if_neg (by omega)] at h1
                rw [if_neg (by omega), h1]
                congr 1
                omega
            case measure => simp [intOf]; omega
        · have hin : i = n2 + 1 := by omega
          have hjn : jj = n2 := by
            have h1 := HJ.out
            have h2 := HA.out
            rw [if_neg (by omega)] at h1
            omega
          subst hin
          subst hjn
          have HNd : Hid (Node ((w6.alloc (.cells #[.slice (a2 0) jj (c2 0), .slice (a2 1) jj (c2 1), .slice (a2 2) jj (c2 2), .slice (a2 3) jj (c2 3), .slice (a2 4) jj (c2 4)] 48)).drewN d) c (.pointer none) (.pointer none)) :=
            node_draws (H5.out.2.2.1.of_block ((blk_alloc_lt _ _ _ (Nat.lt_of_lt_of_le H5.out.2.2.1.lt H6.out.2.size)).trans (H6.out.2.block _ H5.out.2.2.1.lt))) d
          have HBf : Hid (Below w5.heap.size w5 ((w6.alloc (.cells #[.slice (a2 0) jj (c2 0), .slice (a2 1) jj (c2 1), .slice (a2 2) jj (c2 2), .slice (a2 3) jj (c2 3), .slice (a2 4) jj (c2 4)] 48)).drewN d)) := bel_draws (H6.out.2.alloc H6.out.2.size _) d
          go_wp2_with fail
          refine (prev_calls _ c _ _ HNd.out).mono ?_
          rintro e w' ⟨rfl, hw⟩
          obtain rfl := hw
          go_wp2_with fail
          refine (next_calls _ c _ _ HNd.out).mono ?_
          rintro e w' ⟨rfl, hw⟩
          obtain rfl := hw
          go_wp2_with fail
          refine (count_calls _ w1.heap.size mo _ _ now _ (H5.out.1.keep HBf.out).rq M _ (H5.out.2.1.of_block (fun mb e => by subst e; exact HBf.out.block mb H5.out.2.1.lt))).mono ?_
          rintro e w' ⟨rfl, hw⟩
          obtain rfl := hw
          rw [← HN1.out]
          go_wp2_with fail
          go_ret
          refine ⟨by simp, ?_⟩
          have z1 := HR1.out.2.2.size
          have z2 := HS.out.2.1.size
          have z3 := HBX.out.size
          have z5 := H5.out.2.2.2.size
          have T := H5.out.2.2.2.below (B := w.heap.size) (Nat.le_trans z2 z3) (fun k hk g => by have := HS.out.1.base k (.inl g); omega)
          exact ((HS.out.2.1.trans (HBX.out.mono z2)).trans T).trans (HBf.out.mono (by omega))
end Go.Proofs.Qxb6600971a
