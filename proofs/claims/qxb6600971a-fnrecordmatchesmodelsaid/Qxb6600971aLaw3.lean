/-
  The law of 'record' against its model, walked.
-/
import Derived.Test.Qxb6600971aLater
import Derived.Test.Qxb6600971aLaw5
import Derived.Deep.RegionHeld3
namespace Go.Proofs.Qxb6600971a
open Go.RowKit Go.Deep

theorem Try.info4 : (Try.prog.info? 4).map (fun i => (i.zero, i.size, i.bytes)) = some (some (.bool false), 1, 1) := by kernel_rfl
theorem u27 : Try.prog.underlying 27 = some (.slice (Try.prog.elem 27)) := by kernel_rfl
theorem s27 (v : World) : (sizeOf (Try.prog.elem 27)).run Try.prog v = .ok 1 v := by kernel_rfl

theorem row_step {w : World} {b t n k : Nat} {f g : Nat → Value} (h : w.rowIs b t n (fun j => if j < k then f j else g j)) (v : Value) (hv : v = f k) : (w.setCell ⟨b, k, none⟩ v).rowIs b t n (fun j => if j < k + 1 then f j else g j) := by
  refine (h.set k v).congr fun j _ => ?_
  by_cases e : j = k
  · subst e; rw [if_pos rfl, if_pos (by omega), hv]
  · rw [if_neg e]
    by_cases e2 : j < k
    · rw [if_pos e2, if_pos (by omega)]
    · rw [if_neg e2, if_neg (by omega)]

/-- the row of answers, read -/
theorem accs_rd {w : World} {G n : Nat} {f : Nat → St} (h : w.rowIs G 4 n (fun j => .bool (acc f j))) : RdC w 27 (some ⟨G, 0, none⟩) n n G (accs f n) :=
  ⟨fun k hk v => idxOf 27 u27 s27 G n n k hk v, fun k u hu => by
    have hk : k < n := by
      have := (List.getElem?_eq_some_iff.1 hu).1
      rw [accs_len] at this
      exact this
    rw [accs_at f hk] at hu
    cases hu
    exact h.cell hk, fun _ => h.lt⟩

/-- the wanted ones among the first j -/
def wl (f : Nat → St) (n j : Nat) : List Nat := (List.range j).filter fun i => acc f i && !later f n i
theorem wl_all (f : Nat → St) (n : Nat) : wl f n n = wantL f n := rfl
theorem wl_yes {f : Nat → St} {n j : Nat} (h1 : acc f j = true) (h2 : later f n j = false) : wl f n (j + 1) = wl f n j ++ [j] := by
  unfold wl
  rw [List.range_succ, List.filter_append]
  simp [h1, h2]
theorem wl_no {f : Nat → St} {n j : Nat} (h : acc f j = false ∨ later f n j = true) : wl f n (j + 1) = wl f n j := by
  unfold wl
  rw [List.range_succ, List.filter_append]
  rcases h with h | h <;> simp [h]
theorem wl_len (f : Nat → St) (n j : Nat) : (wl f n j).length ≤ j := by
  have := List.length_filter_le (fun i => acc f i && !later f n i) (List.range j)
  simpa [wl] using this
def wvs (l : List Nat) : List Value := l.map fun (i : Nat) => .int .i64 (i : Int)
theorem wvs_snoc (l : List Nat) (j : Nat) : wvs (l ++ [j]) = wvs l ++ [.int .i64 (j : Int)] := by simp [wvs]

theorem own42 {w : World} {B n cw : Nat} {aw : Option Addr} {xs : List Value} (h : w.ownsRow B 3 1 (.slice aw n cw) n xs) : ∃ g, RdC w 42 aw n cw g xs ∧ (0 < n → B ≤ g) := by
  obtain ⟨a9, c9, g, he, hrd, hg⟩ := own_rd 42 u42 s42 h
  injection he with e1 _ e2
  subst e1
  subst e2
  exact ⟨g, hrd, hg⟩

/-- the k-th client is what the k-th wanted step left -/
theorem cmp_at {L : List Cl} {f : Nat → St} {j k m : Nat} (hL : L.map Cl.dat = recs f j) (hm : L.length = m) (hk : k < m) :
    ∃ t : Nat, (wvs (wl f j j))[k]? = some (.int .i64 (t : Int)) ∧ t < j ∧ ∃ h : k < L.length, L[k].dat = f t := by
  subst hm
  rw [recs_want, ← wl_all] at hL
  have h1 := congrArg (fun l => l[k]?) hL
  simp only [List.getElem?_map, List.getElem?_eq_getElem hk, Option.map_some] at h1
  cases ht : (wl f j j)[k]? with
  | none => rw [ht] at h1; cases h1
  | some t =>
    rw [ht, Option.map_some] at h1
    refine ⟨t, by simp [wvs, ht], ?_, hk, Option.some.inj h1⟩
    have := List.mem_of_getElem? ht
    unfold wl at this
    exact List.mem_range.1 (List.mem_filter.1 this).1

theorem cols_at {w : World} {L : List Cl} {B : Nat} {a : Nat → Option Addr} {c g : Nat → Nat} (h : Cols w L B a c g) {k m : Nat} (hm : L.length = m) (hk : k < L.length) {s : St} (e : L[k].dat = s) :
    ((∀ v : World, (Instr.indexAt 44 (.slice (a 0) m (c 0)) (.int .i64 (k : Int))).run Try.prog v = .ok (.pointer (some ⟨g 0, k, none⟩)) v) ∧
     (∀ v : World, (Instr.indexAt 45 (.slice (a 1) m (c 1)) (.int .i64 (k : Int))).run Try.prog v = .ok (.pointer (some ⟨g 1, k, none⟩)) v) ∧
     (∀ v : World, (Instr.indexAt 45 (.slice (a 2) m (c 2)) (.int .i64 (k : Int))).run Try.prog v = .ok (.pointer (some ⟨g 2, k, none⟩)) v) ∧
     (∀ v : World, (Instr.indexAt 42 (.slice (a 3) m (c 3)) (.int .i64 (k : Int))).run Try.prog v = .ok (.pointer (some ⟨g 3, k, none⟩)) v) ∧
     (∀ v : World, (Instr.indexAt 46 (.slice (a 4) m (c 4)) (.int .i64 (k : Int))).run Try.prog v = .ok (.pointer (some ⟨g 4, k, none⟩)) v)) ∧
    (w.cell? ⟨g 0, k, none⟩ = some (.string s.id) ∧ w.cell? ⟨g 1, k, none⟩ = some (.int .u64 s.seq) ∧ w.cell? ⟨g 2, k, none⟩ = some (.int .u64 s.first) ∧ w.cell? ⟨g 3, k, none⟩ = some (.int .i64 s.n) ∧ w.cell? ⟨g 4, k, none⟩ = some (.int .i64 s.now)) ∧
    (g 0 < w.heap.size ∧ g 1 < w.heap.size ∧ g 2 < w.heap.size ∧ g 3 < w.heap.size ∧ g 4 < w.heap.size) := by
  subst hm
  subst e
  exact ⟨⟨(h.col 0 (by omega)).idx k hk, (h.col 1 (by omega)).idx k hk, (h.col 2 (by omega)).idx k hk, (h.col 3 (by omega)).idx k hk, (h.col 4 (by omega)).idx k hk⟩,
    ⟨h.at hk 0 (by omega), h.at hk 1 (by omega), h.at hk 2 (by omega), h.at hk 3 (by omega), h.at hk 4 (by omega)⟩,
    ⟨(h.col 0 (by omega)).old (by omega), (h.col 1 (by omega)).old (by omega), (h.col 2 (by omega)).old (by omega), (h.col 3 (by omega)).old (by omega), (h.col 4 (by omega)).old (by omega)⟩⟩

set_option maxRecDepth 100000 in
set_option maxHeartbeats 4000000 in
theorem law3 (w : World) (a : Option Addr) (n cap b off : Nat) (f : Nat → St) (h : RdS w a n cap b off f) :
    Calls Try.prog 3 #[.slice a n cap] w fun e w' => e = .returned (.bool true) ∧ Below w.heap.size w w' := by
  have hsm := h.small
  unfold maxLen at hsm
  have H : Hid (RdS w a n cap b off f) := h
  clear h
  go_enter Try.func3, Try.ntmps3
  go_wp2_with fail
  refine (zz6_calls w a n cap b off f H.out).mono ?_
  rintro e w' ⟨rfl | rfl, hw⟩ <;> obtain rfl := hw.symm
  · go_wp2_with fail
    go_ret
    exact ⟨rfl, Below.refl _ _⟩
  by_cases hn : n ≤ 4096
  case neg =>
    go_wp2_with fail
    go_ret
    exact ⟨rfl, Below.refl _ _⟩
  go_wp2_with fail
  refine (stepsBytes_calls w a n cap b off f H.out).mono ?_
  rintro e w' ⟨rfl | ⟨_, z, rfl, hz0, hz1⟩, hw⟩ <;> obtain rfl := hw.symm
  · go_wp2_with fail
    go_ret
    exact ⟨rfl, Below.refl _ _⟩
  go_wp2_with fail
  refine (cloneSteps_calls w a n cap b off f H.out (by omega)).mono ?_
  rintro e w1 ⟨a', cap', b', rfl, hr1, hb', hbel1⟩
  obtain ⟨of, hr1⟩ : ∃ of, RdS w1 a' n cap' b' of f := ⟨_, hr1⟩
  have HR1 : Hid (RdS w1 a' n cap' b' of f ∧ w.heap.size ≤ b' ∧ Below w.heap.size w w1) := ⟨hr1, hb', hbel1⟩
  clear hr1 hb' hbel1
  have hmk := run_make_row' (P := Try.prog) 27 4 (.bool false) 1 Try.underlying27 Try.info4 rfl .i64 .i64 n (by omega) (by omega)
  go_wp2_with fail
  clear hmk
  go_loopw [36] (fun iv wr => ∃ k : Nat, iv = .int .i64 k ∧ k ≤ n ∧ wr.rowIs w1.heap.size 4 n (fun j => if j < k then .bool (acc f j) else .bool false) ∧ Below w1.heap.size w1 wr) (fun iv _ => n - (intOf iv).toNat)
  case atStart => exact ⟨0, rfl, by omega, (World.rowIs_made w1 _ n 4).congr (fun j _ => by simp), (Below.refl _ _).alloc (Nat.le_refl _) _⟩
  case round =>
    obtain ⟨k, rfl, hk, hrow, hbel⟩ := hrel
    by_cases hlt : k < n
    · have hco : wr.cell? ⟨w1.heap.size, k, none⟩ = some (.bool false) := by rw [hrow.cell hlt]; simp
      have hfo := hrow.frozen k
      have hi2 := idxOf 27 u27 s27 w1.heap.size n n k hlt
      have HRow : Hid (wr.rowIs w1.heap.size 4 n (fun j => if j < k then .bool (acc f j) else .bool false) ∧ Below w1.heap.size w1 wr) := ⟨hrow, hbel⟩
      clear hrow hbel
      go_wp2_with fail
      refine (early_calls _ a' n cap' b' of f k (HR1.out.1.keep HRow.out.2) hlt (by omega)).mono ?_
      rintro e w' ⟨rfl, d, rfl⟩
      go_wp2_with fail
      go_roundw
      case rel => exact ⟨k + 1, by go_num, by omega, row_step (f := fun j => .bool (acc f j)) HRow.out.1 _ rfl, (bel_draws HRow.out.2 d).setCell (p := ⟨w1.heap.size, k, none⟩) (Nat.le_refl _) _⟩
      case measure => simp [intOf]; omega
    · rename World => wA
      have hkn : k = n := by omega
      subst hkn
      have hrow' : wA.rowIs w1.heap.size 4 k (fun j => .bool (acc f j)) := hrow.congr (fun j hj => by rw [if_pos hj])
      have H2 : Hid (wA.rowIs w1.heap.size 4 k (fun j => .bool (acc f j)) ∧ Below w1.heap.size w1 wA ∧ RdS wA a' k cap' b' of f) := ⟨hrow', hbel, HR1.out.1.keep hbel⟩
      have hG := hrow'.lt
      clear hrow hbel hrow'
      go_wp2_with fail
      go_loopw [48] (fun iv wq => ∃ (i : Nat) (mo : Option Nat) (L : List Cl) (M : ByteArray → Option Nat) (now : Int), iv = .int .i64 i ∧ i ≤ k ∧ Below wA.heap.size wA wq ∧ ST wq wA.heap.size mo L M now wA.heap.size ∧ L.map Cl.dat = recs f i) (fun iv _ => k - (intOf iv).toNat)
      case atStart => exact ⟨0, none, [], fun _ => none, 0, rfl, by omega, (Below.refl _ _).alloc (Nat.le_refl _) _, st_born wA, rfl⟩
      case round =>
        obtain ⟨i, mo, L, M, now, rfl, hik, hbel, hs, hL⟩ := hrel
        have hrA : RdS wr a' k cap' b' of f := H2.out.2.2.keep hbel
        have hrowA : wr.rowIs w1.heap.size 4 k (fun j => .bool (acc f j)) := H2.out.1.of_block (hbel.block _ hG)
        by_cases hlt2 : i < k
        · obtain ⟨q0, q1, q2, q3, q4⟩ := hrA.cells hlt2
          have hi := hrA.idx i hlt2
          have hid := hrA.ids i hlt2
          have hbB : b' < wA.heap.size := H2.out.2.2.old i hlt2
          have HS : Hid (ST wr wA.heap.size mo L M now wA.heap.size ∧ L.map Cl.dat = recs f i ∧ Below wA.heap.size wA wr ∧ RdS wr a' k cap' b' of f) := ⟨hs, hL, hbel, hrA⟩
          clear hs hL hbel hrA hrowA
          go_wp2_with fail
          clear q0 q1 q2 q3 q4
          refine (setNow_calls _ wA.heap.size mo L M now (f i).now wA.heap.size HS.out.1).mono ?_
          rintro e w3 ⟨rfl, hb1, hs1⟩
          have hr1 := HS.out.2.2.2.later hb1 (.inr hbB)
          obtain ⟨q0, q1, q2, q3, q4⟩ := hr1.cells hlt2
          have hb1' := hr1.old i hlt2
          have hlen : L.length ≤ 100000 := by
            have e1 := congrArg List.length HS.out.2.1
            rw [List.length_map] at e1
            have e2 := recs_len f i
            omega
          have hbw3 : Below wA.heap.size wA w3 := HS.out.2.2.1.trans hb1
          have hrow3 : w3.rowIs w1.heap.size 4 k (fun j => .bool (acc f j)) := H2.out.1.of_block (hbw3.block _ hG)
          have HS1 : Hid (ST w3 wA.heap.size mo L M (f i).now wA.heap.size ∧ Below wA.heap.size wA w3) := ⟨hs1, hbw3⟩
          have hia := (accs_rd hrow3).idx i hlt2
          have hca := hrow3.cell hlt2
          have hG3 := hrow3.lt
          have HP : Hid (Calls Try.prog 11 #[ptr wA.heap.size, .agg #[.string (f i).id, .int .u64 (f i).seq], .int .i64 (f i).n, .int .u64 (f i).first]
              ((w3.alloc (.cells #[.string (f i).id, .int .u64 (f i).seq, .int .i64 (f i).n, .int .u64 (f i).first, .int .i64 (f i).now] 37)).alloc (.cells #[.string (f i).id, .int .u64 (f i).seq] 40)).drew
              fun e w' => e = .returned (.bool (acc f i)) ∧ Hid (Below wA.heap.size wA w' ∧ ∃ mo' L' M' now', ST w' wA.heap.size mo' L' M' now' wA.heap.size ∧ L'.map Cl.dat = recs f (i + 1)) ∧ (w'.cell? ⟨b', of + i * 5, none⟩ = some (.string (f i).id) ∧ w'.cell? ⟨b', of + i * 5 + 1, none⟩ = some (.int .u64 (f i).seq) ∧ w'.cell? ⟨b', of + i * 5 + 2, none⟩ = some (.int .i64 (f i).n) ∧ w'.cell? ⟨b', of + i * 5 + 3, none⟩ = some (.int .u64 (f i).first) ∧ w'.cell? ⟨b', of + i * 5 + 4, none⟩ = some (.int .i64 (f i).now) ∧ w'.cell? ⟨w1.heap.size, i, none⟩ = some (.bool (acc f i)))) := by
            have hbb : Below w3.heap.size w3 ((w3.alloc (.cells #[.string (f i).id, .int .u64 (f i).seq, .int .i64 (f i).n, .int .u64 (f i).first, .int .i64 (f i).now] 37)).alloc (.cells #[.string (f i).id, .int .u64 (f i).seq] 40)).drew :=
              (((Below.refl _ _).alloc (Nat.le_refl _) _).alloc (by simp) _).drew
            refine (zzrecord_calls _ wA.heap.size mo L M wA.heap.size (f i) (HS1.out.1.keep hbb) hid hlen).mono ?_
            rintro e w' ⟨rfl, hb, mo', L', M', h1, h2⟩
            rw [HS.out.2.1, ← acc_refused]
            have hall := HS1.out.2.trans ((hbb.mono HS1.out.1.low).trans hb)
            refine ⟨rfl, ⟨hall, mo', L', M', _, h1, by rw [h2, HS.out.2.1]; rfl⟩, ?_⟩
            obtain ⟨z0, z1, z2, z3, z4⟩ := (H2.out.2.2.later hall (.inr hbB)).cells hlt2
            refine ⟨z0, z1, z2, z3, z4, ?_⟩
            rw [hall.cell (p := ⟨w1.heap.size, i, none⟩) hG]
            exact H2.out.1.cell hlt2
          clear hs1 hb1 hr1 hbw3 hrow3
          generalize hacc : acc f i = q at hca HP
          go_upto_region 20 with fail
          go_cut [48, 77] from 48 to 78 (fun c t wx => c = .int .i64 (i : Int) ∧ t = .bool false ∧ Hid (Below wA.heap.size wA wx ∧ ∃ mo' L' M' now', ST wx wA.heap.size mo' L' M' now' wA.heap.size ∧ L'.map Cl.dat = recs f (i + 1)))
          case first =>
            go_region_held3 (fun w' => w'.cell? ⟨b', of + i * 5, none⟩ = some (.string (f i).id) ∧ w'.cell? ⟨b', of + i * 5 + 1, none⟩ = some (.int .u64 (f i).seq) ∧ w'.cell? ⟨b', of + i * 5 + 2, none⟩ = some (.int .i64 (f i).n) ∧ w'.cell? ⟨b', of + i * 5 + 3, none⟩ = some (.int .u64 (f i).first) ∧ w'.cell? ⟨b', of + i * 5 + 4, none⟩ = some (.int .i64 (f i).now) ∧ w'.cell? ⟨w1.heap.size, i, none⟩ = some (.bool q)) (first | go_keep | exact hSnew)
              (first
                | (go_at_call 12; refine (idOf_calls _ (f i)).mono ?_; rintro e w' ⟨rfl, rfl⟩)
                | (go_at_call 11; refine HP.out.mono ?_; rintro e w' ⟨rfl, hfin, hSnew⟩))
            all_goals
              go_wp2_with fail
              go_meet
              exact ⟨rfl, by simp, hfin⟩
          case rest =>
            obtain ⟨rfl, rfl, hfin⟩ := hcut
            clear HP q0 q1 q2 q3 q4 hca
            go_wp2_with fail
            go_roundw
            case rel =>
              obtain ⟨g1, mo', L', M', now', g2, g3⟩ := hfin.out
              exact ⟨i + 1, mo', L', M', now', by go_num, by omega, g1, g2, g3⟩
            case measure => simp [intOf]; omega
        · rename World => wB
          have hik' : i = k := by omega
          subst hik'
          have H3 : Hid (ST wB wA.heap.size mo L M now wA.heap.size ∧ L.map Cl.dat = recs f i ∧ Below wA.heap.size wA wB ∧ RdS wB a' i cap' b' of f ∧ wB.rowIs w1.heap.size 4 i (fun j => .bool (acc f j))) := ⟨hs, hL, hbel, hrA, hrowA⟩
          clear hs hL hbel hrA hrowA
          obtain ⟨i0, hi0, hz0, hz1, hz2⟩ := info_parts Try.row3
          go_wp2_with fail
          go_loopw [9, 81] (fun v jv wr => ∃ (j : Nat) (aw : Option Addr) (cw : Nat), jv = .int .i64 j ∧ j ≤ i ∧ v = .slice aw (wl f i j).length cw ∧ wr.ownsRow wB.heap.size 3 1 (.slice aw (wl f i j).length cw) (wl f i j).length (wvs (wl f i j)) ∧ Below wB.heap.size wB wr) (fun _ jv _ => i - (intOf jv).toNat)
          case atStart => exact ⟨0, none, 0, rfl, by omega, rfl, World.ownsRow_nil _ _ _ _, Below.refl _ _⟩
          case round =>
            obtain ⟨j, aw, cw, rfl, hji, rfl, hown, hbel⟩ := hrel
            have hrB := H3.out.2.2.2.1.keep hbel
            have hrowB : wr.rowIs w1.heap.size 4 i (fun j => .bool (acc f j)) := H3.out.2.2.2.2.of_block (hbel.block _ H3.out.2.2.2.2.lt)
            have HW : Hid (wr.ownsRow wB.heap.size 3 1 (.slice aw (wl f i j).length cw) (wl f i j).length (wvs (wl f i j)) ∧ Below wB.heap.size wB wr ∧ RdS wr a' i cap' b' of f ∧ RdC wr 27 (some ⟨w1.heap.size, 0, none⟩) i i w1.heap.size (accs f i)) := ⟨hown, hbel, hrB, accs_rd hrowB⟩
            have hbsz := hbel.size
            clear hown hbel hrB hrowB
            obtain ⟨m, hm⟩ : ∃ m, m = (wl f i j).length := ⟨_, rfl⟩
            have HM : Hid (m = (wl f i j).length) := hm
            have hm9 : m ≤ 4096 := by have := wl_len f i j; omega
            rw [← hm]
            clear hm
            by_cases hlt3 : j < i
            · have hia := HW.out.2.2.2.idx j hlt3
              have hca := HW.out.2.2.2.cell j _ (accs_at f hlt3)
              cases hacc : acc f j
              · rw [hacc] at hca
                have HA : Hid (acc f j = false) := hacc
                clear hacc
                go_wp2_with fail
                go_roundw
                case rel =>
                  refine ⟨j + 1, aw, cw, by go_num, by omega, ?_, ?_, HW.out.2.1⟩
                  · rw [wl_no (.inl HA.out), ← HM.out]
                  · rw [wl_no (.inl HA.out)]; exact HW.out.1
                case measure => simp [intOf]; omega
              · rw [hacc] at hca
                have HA : Hid (acc f j = true) := hacc
                clear hacc
                go_wp2_with fail
                refine (later_calls _ a' i cap' b' of f _ i w1.heap.size j HW.out.2.2.1 HW.out.2.2.2 hlt3 (by omega)).mono ?_
                rintro e w' ⟨rfl, d, rfl⟩
                cases hlat : later f i j
                · have HL : Hid (later f i j = false) := hlat
                  clear hlat
                  have HO : Hid (∀ d : Nat, ((wr.alloc (.cells #[.int .i64 (j : Int)] 3)).drewN d).ownsRow wB.heap.size 3 1 (.slice aw m cw) m (wvs (wl f i j))) := fun d => by
                    have := HW.out.1
                    rw [← HM.out] at this
                    exact this.alloc _
                  have HNW : Hid (∀ d : Nat, ∀ q u, [Value.int .i64 (j : Int)][q]? = some u → ((wr.alloc (.cells #[.int .i64 (j : Int)] 3)).drewN d).cell? ((⟨wr.heap.size, 0, none⟩ : Addr).add q) = some u) := fun d =>
                    World.news_of_block (w := (wr.alloc (.cells #[.int .i64 (j : Int)] 3)).drewN d) (cs := #[.int .i64 (j : Int)]) (t := 3) (fr := (0, 0)) (heap_alloc_new wr _)
                  go_wp2_with (at_builtin; refine wpList_append_lies _ rfl _ _ _ rfl wB.heap.size 3 i0 _ 1 8 Try.underlying42 hi0 hz0 hz1 hz2 rfl (by omega) (.slice aw m cw) m (wvs (wl f i j)) rfl (HO.out _) ⟨wr.heap.size, 0, none⟩ 1 1 [.int .i64 (j : Int)] rfl rfl (HNW.out _) (by simp [Value.oneCell']) (by omega) (by unfold maxLen; omega) (by omega) (by simp; omega) (wr.heap.size + 1) (by simp) ?_; intro g cap w9 hown hgrow hat hltg)
                  go_roundw
                  case rel =>
                    have hl1 : (wl f i (j + 1)).length = m + 1 := by rw [wl_yes HA.out HL.out, List.length_append, ← HM.out]; rfl
                    refine ⟨j + 1, some ⟨g, 0, none⟩, cap, by go_num, by omega, ?_, ?_, ?_⟩
                    · rw [hl1]
                    · rw [hl1, wl_yes HA.out HL.out, wvs_snoc]; exact hown
                    · refine Below.grown ?_ hgrow ?_ ?_
                      · exact bel_draws (HW.out.2.1.alloc hbsz _) _
                      · simp; omega
                      · exact fun k hk => ((HO.out 0).lt k hk).1
                  case measure => simp [intOf]; omega
                · have HL : Hid (later f i j = true) := hlat
                  clear hlat
                  go_wp2_with fail
                  go_roundw
                  case rel =>
                    refine ⟨j + 1, aw, cw, by go_num, by omega, ?_, ?_, bel_draws HW.out.2.1 d⟩
                    · rw [wl_no (.inr HL.out), ← HM.out]
                    · rw [wl_no (.inr HL.out)]; exact HW.out.1
                  case measure => simp [intOf]; omega
            · rename World => wC
              have hji' : j = i := by omega
              subst hji'
              obtain ⟨gw, hrd, hgw⟩ := own42 HW.out.1
              rw [← HM.out] at hrd hgw
              have HD : Hid (RdC wC 42 aw m cw gw (wvs (wl f j j)) ∧ (0 < m → wB.heap.size ≤ gw)) := ⟨hrd, hgw⟩
              clear hrd hgw
              have HLM : Hid (L.length = m) := by
                have e1 := congrArg List.length H3.out.2.1
                rw [recs_want, List.length_map, List.length_map] at e1
                exact e1.trans HM.out.symm
              have hmj : m ≤ j := by
                have e1 := wl_len f j j
                have e2 := HM.out
                omega
              have HSC : Hid (ST wC wA.heap.size mo L M now wA.heap.size) := H3.out.1.keep HW.out.2.1
              go_wp2_with fail
              refine (seen_calls _ wA.heap.size mo L M _ now _ _ HSC.out.ls HSC.out.map HSC.out.found ?_ ?_).mono ?_
              · rw [HLM.out]; omega
              · omega
              rintro e wD ⟨a1, c1, g1, rfl, hc1, hb1⟩
              have H1 : Hid (Cols wD L (wC.heap.size + 2) a1 c1 g1 ∧ Below wC.heap.size wC wD) := ⟨hc1, hb1⟩
              clear hc1 hb1
              rw [HLM.out]
              go_wp2_with fail
              have hXB : (wD.alloc (.cells #[.slice (a1 0) m (c1 0), .slice (a1 1) m (c1 1), .slice (a1 2) m (c1 2), .slice (a1 3) m (c1 3), .slice (a1 4) m (c1 4)] 48)).heap[wD.heap.size]? = some (.cells #[.slice (a1 0) m (c1 0), .slice (a1 1) m (c1 1), .slice (a1 2) m (c1 2), .slice (a1 3) m (c1 3), .slice (a1 4) m (c1 4)] 48) := blk_alloc_new wD _
              have hDX : Below wD.heap.size wD (wD.alloc (.cells #[.slice (a1 0) m (c1 0), .slice (a1 1) m (c1 1), .slice (a1 2) m (c1 2), .slice (a1 3) m (c1 3), .slice (a1 4) m (c1 4)] 48)) := (Below.refl _ _).alloc (Nat.le_refl _) _
              have hlX : wD.heap.size < (wD.alloc (.cells #[.slice (a1 0) m (c1 0), .slice (a1 1) m (c1 1), .slice (a1 2) m (c1 2), .slice (a1 3) m (c1 3), .slice (a1 4) m (c1 4)] 48)).heap.size := by simp
              generalize hXe : wD.alloc (.cells #[.slice (a1 0) m (c1 0), .slice (a1 1) m (c1 1), .slice (a1 2) m (c1 2), .slice (a1 3) m (c1 3), .slice (a1 4) m (c1 4)] 48) = X at hXB hDX hlX ⊢
              clear hXe
              have hCX : Below wC.heap.size wC X := H1.out.2.trans (hDX.mono H1.out.2.size)
              have HX : Hid ((X.heap[wD.heap.size]? = some (.cells #[.slice (a1 0) m (c1 0), .slice (a1 1) m (c1 1), .slice (a1 2) m (c1 2), .slice (a1 3) m (c1 3), .slice (a1 4) m (c1 4)] 48)) ∧ Below wD.heap.size wD X ∧ Below wC.heap.size wC X ∧ Below wB.heap.size wB X) := ⟨hXB, hDX, hCX, HW.out.2.1.trans (hCX.mono HW.out.2.1.size)⟩
              clear hXB hDX hCX
              go_loopw [119] (fun kv wq => ∃ k : Nat, kv = .int .i64 k ∧ k ≤ m ∧ Below X.heap.size X wq) (fun kv _ => m - (intOf kv).toNat)
              case atStart => exact ⟨0, rfl, by omega, Below.refl _ _⟩
              case round =>
                obtain ⟨k, rfl, hk, hbq⟩ := hrel
                have hsz := hbq.size
                have hlr : wD.heap.size < wr.heap.size := by omega
                have hBr : Below wB.heap.size wB wr := HX.out.2.2.2.trans (hbq.mono HX.out.2.2.2.size)
                have hCr : Below wC.heap.size wC wr := HX.out.2.2.1.trans (hbq.mono HX.out.2.2.1.size)
                have hDr : Below wD.heap.size wD wr := HX.out.2.1.trans (hbq.mono HX.out.2.1.size)
                have HR : Hid (Below X.heap.size X wr ∧ Below wB.heap.size wB wr) := ⟨hbq, hBr⟩
                by_cases hlt4 : k < m
                · obtain ⟨t, htk, htj, hkL, hdat⟩ := cmp_at H3.out.2.1 HLM.out hlt4
                  have hcr : Cols wr L (wC.heap.size + 2) a1 c1 g1 := H1.out.1.later (fun b _ hb => hDr.block b hb) hDr.size
                  obtain ⟨⟨i0, i1, i2, i3, i4⟩, ⟨d0, d1, d2, d3, d4⟩, ⟨l0, l1, l2, l3, l4⟩⟩ := cols_at hcr HLM.out hkL hdat
                  have hXr : wr.heap[wD.heap.size]? = some (.cells #[.slice (a1 0) m (c1 0), .slice (a1 1) m (c1 1), .slice (a1 2) m (c1 2), .slice (a1 3) m (c1 3), .slice (a1 4) m (c1 4)] 48) := (hbq.block _ hlX).trans HX.out.1
                  have p0 : wr.cell? ⟨wD.heap.size, 0, none⟩ = some (.slice (a1 0) m (c1 0)) := by simp [World.cell?, hXr]
                  have p1 : wr.cell? ⟨wD.heap.size, 1, none⟩ = some (.slice (a1 1) m (c1 1)) := by simp [World.cell?, hXr]
                  have p2 : wr.cell? ⟨wD.heap.size, 2, none⟩ = some (.slice (a1 2) m (c1 2)) := by simp [World.cell?, hXr]
                  have p3 : wr.cell? ⟨wD.heap.size, 3, none⟩ = some (.slice (a1 3) m (c1 3)) := by simp [World.cell?, hXr]
                  have p4 : wr.cell? ⟨wD.heap.size, 4, none⟩ = some (.slice (a1 4) m (c1 4)) := by simp [World.cell?, hXr]
                  have iw := HD.out.1.idx k hlt4
                  have lw := Nat.lt_of_lt_of_le (HD.out.1.old (by omega)) hCr.size
                  have cw := (HD.out.1.cell k _ htk)
                  rw [← hCr.cell (p := ⟨gw, k, none⟩) (HD.out.1.old (by omega))] at cw
                  have hrS := H3.out.2.2.2.1.keep hBr
                  obtain ⟨q0, q1, q2, q3, q4⟩ := hrS.cells htj
                  have iS := hrS.idx t htj
                  have lS := hrS.old t htj
                  clear hrS hXr hcr hdat hkL htk hbq hBr hCr hDr
                  go_wp2_with fail
                  go_quiet (fail)
                  go_wp2_with fail
                  go_roundw
                  case rel => exact ⟨k + 1, by go_num, by omega, bel_draws (HR.out.1.alloc hsz _) _⟩
                  case measure => simp [intOf]; omega
                · rename World => wE
                  have hkm : k = m := by omega
                  subst hkm
                  clear hbq hBr hCr hDr
                  have HSE : Hid (ST wE wA.heap.size mo L M now wA.heap.size) := H3.out.1.keep HR.out.2
                  go_wp2_with fail
                  refine (count_calls _ wA.heap.size mo _ _ now _ HSE.out.ls.rq M _ HSE.out.map).mono ?_
                  rintro e w' ⟨rfl, hw⟩
                  obtain rfl := hw
                  rw [HLM.out]
                  go_wp2_with fail
                  refine (peak_calls _ wA.heap.size mo _ _ now _ HSE.out.ls.rq).mono ?_
                  rintro e w' ⟨rfl, hw⟩
                  obtain rfl := hw
                  rw [HLM.out]
                  go_wp2_with fail
                  go_ret
                  refine ⟨by simp, ?_⟩
                  have b1 := HR1.out.2.2.trans (H2.out.2.1.mono HR1.out.2.2.size)
                  have b2 := b1.trans (H3.out.2.2.1.mono b1.size)
                  exact b2.trans (HR.out.2.mono b2.size)
end Go.Proofs.Qxb6600971a
