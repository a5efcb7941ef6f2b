/-
  'FnAlikeModel', walked: it returns true.
-/
import Derived.Test.Qxb6600630aAgree
import Derived.Test.Qxb6600630aBounds
namespace Go.Proofs.Qxb6600630a
open Go.RowKit

theorem lv_other {w : World} {v u : Value} {n m : Nat} {tx tx' : Nat → ByteArray} {kn kn' : Nat → Bool} {t t' : Int} {p b p' b' : Nat} (h : LV w false v n tx kn t p b) (h' : LV w false u m tx' kn' t' p' b') (hne : p ≠ p') (d : Nat) :
    (binOp .eql 36 v u).run Try.prog (w.drewN d) = .ok (.bool false) (w.drewN d) := by
  obtain ⟨e, c, hc⟩ := h.list rfl
  obtain ⟨e', c', hc'⟩ := h'.list rfl
  rw [e, e']
  obtain ⟨i0, hi0, hi1⟩ := info60
  obtain ⟨ca, ta, ha⟩ := hc.pblk
  obtain ⟨cb, tb, hb⟩ := hc'.pblk
  exact run_eql_ptr_other (P := Try.prog) (w.drewN d) Try.underlying36 hi0 (by rw [hi1]; omega) (by intro e; cases e; exact hne rfl) ha hb

theorem view_own {w : World} (x : Bool) {a1 : Option Addr} {n c1 b1 o1 : Nat} {f : Nat → ByteArray} {a2 : Option Addr} {c2 b2 o2 : Nat} {p : Nat → Bool} {t : Int} (h1 : Rd w 25 a1 n c1 b1 o1 fun k => .string (f k)) (h2 : Rd w 29 a2 n c2 b2 o2 fun k => .bool (p k)) :
    View w x n a1 c1 a2 c2 t n f p t := by
  cases x with
  | true => exact .inl rfl
  | false => exact .inr ⟨rfl, rfl, rfl, _, _, _, _, h1, h2⟩

set_option maxRecDepth 100000 in
set_option maxHeartbeats 4000000 in
/-- the lengths part: true at once -/
theorem model_odd (w : World) (xl xm : Bool) (t u : Int)
    (a1 : Option Addr) (n1 c1 b1 o1 : Nat) (f : Nat → ByteArray) (h1 : Rd w 25 a1 n1 c1 b1 o1 fun k => .string (f k)) (hf : ∀ k, k < n1 → (f k).size ≤ maxLen)
    (a2 : Option Addr) (n2 c2 b2 o2 : Nat) (p : Nat → Bool) (h2 : Rd w 29 a2 n2 c2 b2 o2 fun k => .bool (p k))
    (a3 : Option Addr) (n3 c3 b3 o3 : Nat) (g : Nat → ByteArray) (h3 : Rd w 25 a3 n3 c3 b3 o3 fun k => .string (g k)) (hg : ∀ k, k < n3 → (g k).size ≤ maxLen)
    (a4 : Option Addr) (n4 c4 b4 o4 : Nat) (q : Nat → Bool) (h4 : Rd w 29 a4 n4 c4 b4 o4 fun k => .bool (q k)) (hodd : ((n2 : Int) != (n1 : Int)) = true ∨ ((n2 : Int) != (n1 : Int)) = false ∧ ((n4 : Int) != (n3 : Int)) = true) :
    Calls Try.prog 6 #[.bool xl, .slice a1 n1 c1, .slice a2 n2 c2, .int .i64 t, .bool xm, .slice a3 n3 c3, .slice a4 n4 c4, .int .i64 u] w fun e w' => e = .returned (.bool true) ∧ Below w.heap.size w w' := by
  have s1 := h1.small
  have s2 := h2.small
  have s3 := h3.small
  have s4 := h4.small
  unfold maxLen at s1 s2 s3 s4
  have HO : Hid (((n2 : Int) != (n1 : Int)) = true ∨ ((n2 : Int) != (n1 : Int)) = false ∧ ((n4 : Int) != (n3 : Int)) = true) := hodd
  clear hodd
  go_enter Try.func6, Try.ntmps6
  go_wp2_with fail
  refine (bytesM_calls w xl xm t u a1 n1 c1 b1 o1 f h1 hf a3 n3 c3 b3 o3 g h3 hg a2 n2 c2 h2.small a4 n4 c4 h4.small).mono ?_
  rintro e w' ⟨he, rfl⟩
  rcases he with rfl | rfl
  · go_wp2_with fail
    go_ret
    exact ⟨rfl, Below.refl _ _⟩
  go_wp2_with fail
  all_goals first | (go_ret; exact ⟨rfl, Below.refl _ _⟩) | skip
  refine (strs_calls w' a1 n1 c1 b1 o1 f h1 (by omega) hf).mono ?_
  rintro e w1 ⟨⟨r1, rfl, r1a, r1b⟩, rfl⟩
  go_wp2_with fail
  refine (strs_calls w1 a3 n3 c3 b3 o3 g h3 (by omega) hg).mono ?_
  rintro e w2 ⟨⟨r2, rfl, r2a, r2b⟩, rfl⟩
  rcases HO.out with e1 | ⟨e1, e2⟩
  · go_wp2_with fail
    all_goals (go_ret; exact ⟨rfl, Below.refl _ _⟩)
  · go_wp2_with fail
    all_goals (go_ret; exact ⟨rfl, Below.refl _ _⟩)

set_option maxRecDepth 100000 in
set_option maxHeartbeats 4000000 in
theorem model_walk (w : World) (xl xm : Bool) (t u : Int)
    (a1 : Option Addr) (n1 c1 b1 o1 : Nat) (f : Nat → ByteArray) (h1 : Rd w 25 a1 n1 c1 b1 o1 fun k => .string (f k)) (hf : ∀ k, k < n1 → (f k).size ≤ maxLen)
    (a2 : Option Addr) (c2 b2 o2 : Nat) (p : Nat → Bool) (h2 : Rd w 29 a2 n1 c2 b2 o2 fun k => .bool (p k))
    (a3 : Option Addr) (n3 c3 b3 o3 : Nat) (g : Nat → ByteArray) (h3 : Rd w 25 a3 n3 c3 b3 o3 fun k => .string (g k)) (hg : ∀ k, k < n3 → (g k).size ≤ maxLen)
    (a4 : Option Addr) (c4 b4 o4 : Nat) (q : Nat → Bool) (h4 : Rd w 29 a4 n3 c4 b4 o4 fun k => .bool (q k)) :
    Calls Try.prog 6 #[.bool xl, .slice a1 n1 c1, .slice a2 n1 c2, .int .i64 t, .bool xm, .slice a3 n3 c3, .slice a4 n3 c4, .int .i64 u] w fun e w' => e = .returned (.bool true) ∧ Below w.heap.size w w' := by
  have s1 := h1.small
  have s3 := h3.small
  unfold maxLen at s1 s3
  go_enter Try.func6, Try.ntmps6
  go_wp2_with fail
  refine (bytesM_calls w xl xm t u a1 n1 c1 b1 o1 f h1 hf a3 n3 c3 b3 o3 g h3 hg a2 n1 c2 h2.small a4 n3 c4 h4.small).mono ?_
  rintro e w' ⟨he, rfl⟩
  rcases he with rfl | rfl
  · go_wp2_with fail
    go_ret
    exact ⟨rfl, Below.refl _ _⟩
  go_wp2_with fail
  all_goals first | (go_ret; exact ⟨rfl, Below.refl _ _⟩) | skip
  refine (strs_calls w' a1 n1 c1 b1 o1 f h1 (by omega) hf).mono ?_
  rintro e w1 ⟨⟨r1, rfl, r1a, r1b⟩, rfl⟩
  go_wp2_with fail
  refine (strs_calls w1 a3 n3 c3 b3 o3 g h3 (by omega) hg).mono ?_
  rintro e w0 ⟨⟨r2, rfl, r2a, r2b⟩, rfl⟩
  have k1 : n1 ≤ 65536 := by omega
  have k3 : n3 ≤ 65536 := by omega
  go_wp2_with fail
  all_goals first | (go_ret; exact ⟨rfl, Below.refl _ _⟩) | skip
  refine (copyStrs_calls w0 a1 n1 c1 b1 o1 f h1 k1).mono ?_
  rintro e w1 ⟨d1, e1, f1, rfl, R1, _, B1⟩
  go_wp2_with fail
  refine (copyBools_calls w1 a2 n1 c2 b2 o2 p (h2.keep B1) k1).mono ?_
  rintro e w2 ⟨d2, e2, f2, rfl, R2, _, B2⟩
  have B2' := B1.trans (B2.mono B1.size)
  go_wp2_with fail
  refine (copyStrs_calls w2 a3 n3 c3 b3 o3 g (h3.keep B2') k3).mono ?_
  rintro e w3 ⟨d3, e3, f3, rfl, R3, _, B3⟩
  have B3' := B2'.trans (B3.mono B2'.size)
  go_wp2_with fail
  refine (copyBools_calls w3 a4 n3 c4 b4 o4 q (h4.keep B3') k3).mono ?_
  rintro e w4 ⟨d4, e4, f4, rfl, R4, _, B4⟩
  have B4' := B3'.trans (B4.mono B3'.size)
  replace R3 := R3.keep B4
  replace R2 := (R2.keep B3).keep B4
  replace R1 := ((R1.keep B2).keep B3).keep B4
  clear B1 B2 B3 B4 B2' B3' h1 h2 h3 h4
  go_wp2_with fail
  have BT := B4'
  clear B4'
  refine (new_any w4 xl t d1 n1 e1 f1 0 f R1 k1 d2 e2 f2 0 p R2).mono ?_
  rintro e w5 ⟨vl, pl, bl, rfl, L, _, hbl, hbl', B5⟩
  replace R1 := R1.keep B5
  replace R2 := R2.keep B5
  replace R3 := R3.keep B5
  replace R4 := R4.keep B5
  replace BT := BT.trans (B5.mono BT.size)
  go_wp2_with fail
  refine (new_any w5 xm u d3 n3 e3 f3 0 g R3 k3 d4 e4 f4 0 q R4).mono ?_
  rintro e w6 ⟨vm, pm, bm, rfl, M, _, hbm, hbm', B6⟩
  replace R1 := R1.keep B6
  replace R2 := R2.keep B6
  replace R3 := R3.keep B6
  replace R4 := R4.keep B6
  replace L := L.keep B6
  replace BT := BT.trans (B6.mono BT.size)
  go_wp2_with fail
  refine (alike22 w6 xl xm vl vm n1 n3 f g p q t u pl bl pm bm L M).mono ?_
  rintro e w7 ⟨vr, rfl, hres, B7⟩
  have L7 := L
  have M7 := M
  replace R1 := R1.keep B7
  replace R2 := R2.keep B7
  replace R3 := R3.keep B7
  replace R4 := R4.keep B7
  replace L7 := L7.keep B7
  replace M7 := M7.keep B7
  replace BT := BT.trans (B7.mono BT.size)
  go_wp2_with fail
  refine (view_any w7 xl vl n1 f p t pl bl L7).mono ?_
  rintro e w8 ⟨m2, a9, c9, a10, c10, t2, rfl, V2, B8⟩
  replace R1 := R1.keep B8
  replace R2 := R2.keep B8
  replace R3 := R3.keep B8
  replace R4 := R4.keep B8
  replace M7 := M7.keep B8
  replace BT := BT.trans (B8.mono BT.size)
  go_wp2_with fail
  refine (viewIs_any w8 xl m2 a9 c9 a10 c10 t2 n1 d1 e1 d2 e2 t n1 f p t V2 (view_own xl R1 R2)).mono ?_
  rintro e w9 ⟨rfl, B9⟩
  replace R1 := R1.keep B9
  replace R2 := R2.keep B9
  replace R3 := R3.keep B9
  replace R4 := R4.keep B9
  replace M7 := M7.keep B9
  replace BT := BT.trans (B9.mono BT.size)
  clear V2
  go_wp2_with fail
  refine (view_any w9 xm vm n3 g q u pm bm M7).mono ?_
  rintro e w10 ⟨m4, a13, c13, a14, c14, t4, rfl, V4, B10⟩
  replace R1 := R1.keep B10
  replace R2 := R2.keep B10
  replace R3 := R3.keep B10
  replace R4 := R4.keep B10
  replace BT := BT.trans (B10.mono BT.size)
  go_wp2_with fail
  refine (viewIs_any w10 xm m4 a13 c13 a14 c14 t4 n3 d3 e3 d4 e4 u n3 g q u V4 (view_own xm R3 R4)).mono ?_
  rintro e w11 ⟨rfl, B11⟩
  replace R1 := R1.keep B11
  replace R2 := R2.keep B11
  replace R3 := R3.keep B11
  replace R4 := R4.keep B11
  replace BT := BT.trans (B11.mono BT.size)
  have B7' := ((B8.trans (B9.mono B8.size)).trans (B10.mono (Nat.le_trans B8.size B9.size))).trans (B11.mono (Nat.le_trans B8.size (Nat.le_trans B9.size B10.size)))
  clear V4 M7 L7 B8 B9 B10 B11
  rcases hres with hres | hres | hres
  · have qv : ∀ u : World, (binOp .eql 36 vr (.pointer none)).run Try.prog u = .ok (.bool true) u := fun u => by
      rw [hres.2, run_eql_pointer_nil _ _ _ (by kernel_rfl)]; rfl
    have zv := guard_eql (v := vr) (u := .pointer none) ⟨_, hres.2⟩ ⟨_, rfl⟩
    have hne := hres.1
    clear hres
    cases xl <;> cases xm
    · have hn : ((n1 : Int) != (n3 : Int)) = true := by simp [ln] at hne; simp; omega
      clear hne
      go_wp2_with fail
      go_ret
      exact ⟨rfl, BT⟩
    · have hn : ((n1 : Int) != 0) = true := by simp [ln] at hne; simp; omega
      clear hne
      go_wp2_with fail
      go_ret
      exact ⟨rfl, BT⟩
    · have hn : ((0 : Int) != (n3 : Int)) = true := by simp [ln] at hne; simp; omega
      clear hne
      go_wp2_with fail
      go_ret
      exact ⟨rfl, BT⟩
    · exact absurd rfl hne
  · have heq := hres.1
    have hz := hres.2.2
    have L11 := (L.keep B7).keep B7'
    have qv : ∀ u : World, (binOp .eql 36 vr vl).run Try.prog u = .ok (.bool true) u := fun u => by rw [hres.2.1]; exact L11.eql u
    have zv := guard_eql (v := vr) (u := vl) (by rw [hres.2.1]; exact L11.ptr) L11.ptr
    clear hres L11
    cases xl <;> cases xm
    · have e13 : n1 = n3 := by simpa [ln] using heq
      subst e13
      have hrs : n1 = 0 ∨ rs f g p q n1 = false := by
        rcases hz with h | h | h
        · exact .inl (by simpa [ln] using h)
        · have h1 := (hbl' rfl).2
          omega
        · exact .inr h
      clear heq hz
      by_cases h0 : n1 = 0
      · have h0' : ((n1 : Int) == 0) = true := by simp; omega
        clear hrs h0
        go_wp2_with fail
        go_ret
        exact ⟨rfl, BT⟩
      · have h0' : ((n1 : Int) == 0) = false := by simp; omega
        have HRS : Hid (rs f g p q n1 = false) := by rcases hrs with h | h; exact absurd h h0; exact h
        clear hrs h0
        have K1 := R1
        have K2 := R2
        have K3 := R3
        have K4 := R4
        go_wp2_with fail
        go_loopw [30, 31, 32] (fun v z i wr => ∃ k d : Nat, i = .int .i64 k ∧ k ≤ n1 ∧ v = .bool (rs f g p q k) ∧ z = .int .i64 (lastTo f g p q k) ∧ wr = w11.drewN d) (fun _ _ i _ => n1 - (intOf i).toNat)
        case atStart => exact ⟨0, 0, rfl, by omega, rfl, rfl, rfl⟩
        case round =>
          obtain ⟨k, d, rfl, hk, rfl, rfl, rfl⟩ := hrel
          by_cases hlt : k < n1
          · have i2 := K2.idx k hlt
            have x2 := K2.cell k hlt
            simp only [Nat.zero_add] at i2 x2
            cases hag : ag f g p q k
            · cases hp : p k
              · rw [hp] at x2
                have HN : Hid (rs f g p q (k + 1) = rs f g p q k ∧ lastTo f g p q (k + 1) = k) := by simp [Hid, rs, bad, lastTo, hag, hp]
                clear hp
                go_wp2_with (go_at_call 25; refine (agree_calls (w11.drewN d) n1 k hlt d1 e1 f1 0 f (K1.draws d) d2 e2 f2 0 p (K2.draws d) d3 e3 f3 0 g (K3.draws d) d4 e4 f4 0 q (K4.draws d)).mono ?_; rintro e w' ⟨rfl, d', rfl⟩)
                go_roundw
                case rel => exact ⟨k + 1, d + d', by go_num, by omega, by rw [HN.out.1], by rw [HN.out.2], rfl⟩
                case measure => simp [intOf]; omega
              · rw [hp] at x2
                have HN : Hid (rs f g p q (k + 1) = true ∧ lastTo f g p q (k + 1) = k) := by simp [Hid, rs, bad, lastTo, hag, hp]
                clear hp
                go_wp2_with (go_at_call 25; refine (agree_calls (w11.drewN d) n1 k hlt d1 e1 f1 0 f (K1.draws d) d2 e2 f2 0 p (K2.draws d) d3 e3 f3 0 g (K3.draws d) d4 e4 f4 0 q (K4.draws d)).mono ?_; rintro e w' ⟨rfl, d', rfl⟩)
                go_roundw
                case rel => exact ⟨k + 1, d + d', by go_num, by omega, by rw [HN.out.1], by rw [HN.out.2], rfl⟩
                case measure => simp [intOf]; omega
            · have HN : Hid (rs f g p q (k + 1) = rs f g p q k ∧ lastTo f g p q (k + 1) = lastTo f g p q k) := by simp [Hid, rs, bad, lastTo, hag]
              go_wp2_with (go_at_call 25; refine (agree_calls (w11.drewN d) n1 k hlt d1 e1 f1 0 f (K1.draws d) d2 e2 f2 0 p (K2.draws d) d3 e3 f3 0 g (K3.draws d) d4 e4 f4 0 q (K4.draws d)).mono ?_; rintro e w' ⟨rfl, d', rfl⟩)
              go_roundw
              case rel => exact ⟨k + 1, d + d', by go_num, by omega, by rw [HN.out.1], by rw [HN.out.2], rfl⟩
              case measure => simp [intOf]; omega
          · have hrk : rs f g p q k = false := by rw [show k = n1 by omega]; exact HRS.out
            go_wp2_with fail
            go_ret
            exact ⟨rfl, bel_draws BT _⟩
    · have h1 : ((n1 : Int) != 0) = false := by simp [ln] at heq; simp; omega
      have h0' : ((n1 : Int) == 0) = true := by simp [ln] at heq; simp; omega
      clear heq hz
      go_wp2_with fail
      go_ret
      exact ⟨rfl, BT⟩
    · have h1 : ((0 : Int) != (n3 : Int)) = false := by simp [ln] at heq; simp; omega
      clear heq hz
      go_wp2_with fail
      go_ret
      exact ⟨rfl, BT⟩
    · clear heq hz
      go_wp2_with fail
      go_ret
      exact ⟨rfl, BT⟩
  · obtain ⟨rfl, rfl, rfl, hp0, hbne, hrs, pr, br, hpr, hbr, LR⟩ := hres
    obtain ⟨e6, c6, I6⟩ := LR.list rfl
    have h0' : ((n1 : Int) == 0) = false := by simp; omega
    have HRS : Hid (rs f g p q n1 = true) := hrs
    have LR11 := LR.keep B7'
    have L11 := (L.keep B7).keep B7'
    have M11 := (M.keep B7).keep B7'
    have qn : ∀ d, (binOp .eql 36 vr (.pointer none)).run Try.prog (w11.drewN d) = .ok (.bool false) (w11.drewN d) := fun d => by
      rw [e6, run_eql_pointer_nil _ _ _ (by kernel_rfl)]; rfl
    have ql : ∀ d, (binOp .eql 36 vr vl).run Try.prog (w11.drewN d) = .ok (.bool false) (w11.drewN d) := fun d => lv_other LR11 L11 (by have := (hbl' rfl).1; have := B6.size; omega) d
    have qm : ∀ d, (binOp .eql 36 vr vm).run Try.prog (w11.drewN d) = .ok (.bool false) (w11.drewN d) := fun d => lv_other LR11 M11 (by have := (hbm' rfl).1; omega) d
    have z0 := guard_eql (v := vr) (u := .pointer none) LR.ptr ⟨_, rfl⟩
    have z1 := guard_eql (v := vr) (u := vl) LR.ptr L11.ptr
    have z2 := guard_eql (v := vr) (u := vm) LR.ptr M11.ptr
    clear hrs e6 I6 L11 M11 LR
    have K1 := R1
    have K2 := R2
    have K3 := R3
    have K4 := R4
    go_wp2_with fail
    go_loopw [30, 31, 32] (fun v z i wr => ∃ k d : Nat, i = .int .i64 k ∧ k ≤ n1 ∧ v = .bool (rs f g p q k) ∧ z = .int .i64 (lastTo f g p q k) ∧ wr = w11.drewN d) (fun _ _ i _ => n1 - (intOf i).toNat)
    case atStart => exact ⟨0, 0, rfl, by omega, rfl, rfl, rfl⟩
    case round =>
      obtain ⟨k, d, rfl, hk, rfl, rfl, rfl⟩ := hrel
      by_cases hlt : k < n1
      · have i2 := K2.idx k hlt
        have x2 := K2.cell k hlt
        simp only [Nat.zero_add] at i2 x2
        cases hag : ag f g p q k
        · cases hp : p k
          · rw [hp] at x2
            have HN : Hid (rs f g p q (k + 1) = rs f g p q k ∧ lastTo f g p q (k + 1) = k) := by simp [Hid, rs, bad, lastTo, hag, hp]
            clear hp
            go_wp2_with (go_at_call 25; refine (agree_calls (w11.drewN d) n1 k hlt d1 e1 f1 0 f (K1.draws d) d2 e2 f2 0 p (K2.draws d) d3 e3 f3 0 g (K3.draws d) d4 e4 f4 0 q (K4.draws d)).mono ?_; rintro e w' ⟨rfl, d', rfl⟩)
            go_roundw
            case rel => exact ⟨k + 1, d + d', by go_num, by omega, by rw [HN.out.1], by rw [HN.out.2], rfl⟩
            case measure => simp [intOf]; omega
          · rw [hp] at x2
            have HN : Hid (rs f g p q (k + 1) = true ∧ lastTo f g p q (k + 1) = k) := by simp [Hid, rs, bad, lastTo, hag, hp]
            clear hp
            go_wp2_with (go_at_call 25; refine (agree_calls (w11.drewN d) n1 k hlt d1 e1 f1 0 f (K1.draws d) d2 e2 f2 0 p (K2.draws d) d3 e3 f3 0 g (K3.draws d) d4 e4 f4 0 q (K4.draws d)).mono ?_; rintro e w' ⟨rfl, d', rfl⟩)
            go_roundw
            case rel => exact ⟨k + 1, d + d', by go_num, by omega, by rw [HN.out.1], by rw [HN.out.2], rfl⟩
            case measure => simp [intOf]; omega
        · have HN : Hid (rs f g p q (k + 1) = rs f g p q k ∧ lastTo f g p q (k + 1) = lastTo f g p q k) := by simp [Hid, rs, bad, lastTo, hag]
          go_wp2_with (go_at_call 25; refine (agree_calls (w11.drewN d) n1 k hlt d1 e1 f1 0 f (K1.draws d) d2 e2 f2 0 p (K2.draws d) d3 e3 f3 0 g (K3.draws d) d4 e4 f4 0 q (K4.draws d)).mono ?_; rintro e w' ⟨rfl, d', rfl⟩)
          go_roundw
          case rel => exact ⟨k + 1, d + d', by go_num, by omega, by rw [HN.out.1], by rw [HN.out.2], rfl⟩
          case measure => simp [intOf]; omega
      · have HKN : Hid (k = n1) := by show k = n1; omega
        have hrk : rs f g p q k = true := by rw [HKN.out]; exact HRS.out
        have qn' := qn d
        have ql' := ql d
        have qm' := qm d
        clear qn ql qm
        go_wp2_with fail
        refine (view_any (w11.drewN d) false vr n1 (txr f g p q n1) (knr f g p q n1) (toldTo n1 f g p q n1) pr br (LR11.keep (bel_draws (Below.refl _ _) _))).mono ?_
        rintro e w12 ⟨m5, a15, c15, a16, c16, t5, rfl, V5, B12⟩
        have B12' : Below w11.heap.size w11 w12 := (bel_draws (Below.refl _ _) d).trans B12
        rcases V5 with V5 | ⟨_, rfl, rfl, f5, g5, f6, g6, V5, V6⟩
        · cases V5
        have htold : (toldTo m5 f g p q m5 != (m5 : Int) - 1 - lastTo f g p q k) = false := by rw [HKN.out, told_last]; simp
        have hlb := last_bd f g p q k
        clear hrk qn' ql' qm' z0 z1 z2
        go_wp2_with fail
        have Q1 := K1.keep B12'
        have Q2 := K2.keep B12'
        have Q3 := K3.keep B12'
        have Q4 := K4.keep B12'
        have BT' := BT.trans (B12'.mono BT.size)
        clear K1 K2 K3 K4 R1 R2 R3 R4 htold
        go_loopw [37] (fun i wr => ∃ j d' : Nat, i = .int .i64 j ∧ j ≤ m5 ∧ wr = w12.drewN d') (fun i _ => m5 - (intOf i).toNat)
        case atStart => exact ⟨0, 0, rfl, by omega, rfl⟩
        case round =>
          obtain ⟨j, d', rfl, hjn, rfl⟩ := hrel
          by_cases hj : j < m5
          · have i1 := Q1.idx j hj
            have x1 := Q1.cell j hj
            have i2 := Q2.idx j hj
            have x2 := Q2.cell j hj
            have i5 := V5.idx j hj
            have x5 := V5.cell j hj
            have i6 := V6.idx j hj
            have x6 := V6.cell j hj
            simp only [Nat.zero_add] at i1 x1 i2 x2
            rw [knr_full f g p q m5 j hj] at x6
            cases hag : ag f g p q j
            · rw [hag] at x6
              cases hp : p j
              · rw [hp] at x2
                have ht : txr f g p q m5 j = f j := by simp [txr, bad, hp]
                rw [ht] at x5
                clear hp ht
                go_wp2_with (go_at_call 25; refine (agree_calls (w12.drewN d') m5 j hj d1 e1 f1 0 f (Q1.draws d') d2 e2 f2 0 p (Q2.draws d') d3 e3 f3 0 g (Q3.draws d') d4 e4 f4 0 q (Q4.draws d')).mono ?_; rintro e w' ⟨rfl, d'', rfl⟩)
                go_roundw
                case rel => exact ⟨j + 1, d' + d'', by go_num, by omega, rfl⟩
                case measure => simp [intOf]; omega
              · rw [hp] at x2
                have ht : txr f g p q m5 j = ByteArray.empty := by simp [txr, bad, hp, hag, hj]
                rw [ht] at x5
                clear hp ht
                go_wp2_with (go_at_call 25; refine (agree_calls (w12.drewN d') m5 j hj d1 e1 f1 0 f (Q1.draws d') d2 e2 f2 0 p (Q2.draws d') d3 e3 f3 0 g (Q3.draws d') d4 e4 f4 0 q (Q4.draws d')).mono ?_; rintro e w' ⟨rfl, d'', rfl⟩)
                go_roundw
                case rel => exact ⟨j + 1, d' + d'', by go_num, by omega, rfl⟩
                case measure => simp [intOf]; omega
            · rw [hag] at x6
              have ht : txr f g p q m5 j = f j := by simp [txr, bad, hag]
              rw [ht] at x5
              clear ht
              go_wp2_with (go_at_call 25; refine (agree_calls (w12.drewN d') m5 j hj d1 e1 f1 0 f (Q1.draws d') d2 e2 f2 0 p (Q2.draws d') d3 e3 f3 0 g (Q3.draws d') d4 e4 f4 0 q (Q4.draws d')).mono ?_; rintro e w' ⟨rfl, d'', rfl⟩)
              go_roundw
              case rel => exact ⟨j + 1, d' + d'', by go_num, by omega, rfl⟩
              case measure => simp [intOf]; omega
          · go_wp2_with fail
            go_ret
            exact ⟨rfl, bel_draws BT' _⟩
end Go.Proofs.Qxb6600630a
