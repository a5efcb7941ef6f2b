/-
  'FnAlikeSettles', walked: it returns true.
-/
import Derived.Test.Qxb6600630aAbs
import Derived.Test.Qxb6600630aBounds
namespace Go.Proofs.Qxb6600630a
open Go.RowKit

theorem view_self {w : World} (x : Bool) {a1 : Option Addr} {n c1 b1 o1 : Nat} {f : Nat → ByteArray} {a2 : Option Addr} {c2 b2 o2 : Nat} {p : Nat → Bool} {t : Int} (h1 : Rd w 25 a1 n c1 b1 o1 fun k => .string (f k)) (h2 : Rd w 29 a2 n c2 b2 o2 fun k => .bool (p k)) :
    View w x n a1 c1 a2 c2 t n f p t := by
  cases x with
  | true => exact .inl rfl
  | false => exact .inr ⟨rfl, rfl, rfl, _, _, _, _, h1, h2⟩

set_option maxRecDepth 100000 in
set_option maxHeartbeats 4000000 in
/-- the lengths part: true at once -/
theorem settles_odd (w : World) (xl xm : Bool) (t u : Int)
    (a1 : Option Addr) (n1 c1 b1 o1 : Nat) (f : Nat → ByteArray) (h1 : Rd w 25 a1 n1 c1 b1 o1 fun k => .string (f k)) (hf : ∀ k, k < n1 → (f k).size ≤ maxLen)
    (a2 : Option Addr) (n2 c2 b2 o2 : Nat) (p : Nat → Bool) (h2 : Rd w 29 a2 n2 c2 b2 o2 fun k => .bool (p k))
    (a3 : Option Addr) (n3 c3 b3 o3 : Nat) (g : Nat → ByteArray) (h3 : Rd w 25 a3 n3 c3 b3 o3 fun k => .string (g k)) (hg : ∀ k, k < n3 → (g k).size ≤ maxLen)
    (a4 : Option Addr) (n4 c4 b4 o4 : Nat) (q : Nat → Bool) (h4 : Rd w 29 a4 n4 c4 b4 o4 fun k => .bool (q k)) (hodd : ((n2 : Int) != (n1 : Int)) = true ∨ ((n2 : Int) != (n1 : Int)) = false ∧ ((n4 : Int) != (n3 : Int)) = true) :
    Calls Try.prog 8 #[.bool xl, .slice a1 n1 c1, .slice a2 n2 c2, .int .i64 t, .bool xm, .slice a3 n3 c3, .slice a4 n4 c4, .int .i64 u] w fun e w' => e = .returned (.bool true) ∧ Below w.heap.size w w' := by
  have s1 := h1.small
  have s2 := h2.small
  have s3 := h3.small
  have s4 := h4.small
  unfold maxLen at s1 s2 s3 s4
  have HO : Hid (((n2 : Int) != (n1 : Int)) = true ∨ ((n2 : Int) != (n1 : Int)) = false ∧ ((n4 : Int) != (n3 : Int)) = true) := hodd
  clear hodd
  go_enter Try.func8, Try.ntmps8
  go_wp2_with fail
  refine (bytesS_calls w xl xm t u a1 n1 c1 b1 o1 f h1 hf a3 n3 c3 b3 o3 g h3 hg a2 n2 c2 h2.small a4 n4 c4 h4.small).mono ?_
  rintro e w' ⟨he, rfl⟩
  rcases he with rfl | rfl
  · go_wp2_with fail
    go_ret
    exact ⟨rfl, Below.refl _ _⟩
  go_wp2_with fail
  all_goals first | (go_ret; exact ⟨rfl, Below.refl _ _⟩) | skip
  refine (strs_calls w' a1 n1 c1 b1 o1 f h1 (by omega) hf).mono ?_
  rintro e w1 ⟨⟨r1, rfl, r1a, r1b⟩, rfl⟩
  go_wp2_with fail
  refine (strs_calls w1 a3 n3 c3 b3 o3 g h3 (by omega) hg).mono ?_
  rintro e w2 ⟨⟨r2, rfl, r2a, r2b⟩, rfl⟩
  rcases HO.out with e1 | ⟨e1, e2⟩
  · go_wp2_with fail
    all_goals (go_ret; exact ⟨rfl, Below.refl _ _⟩)
  · go_wp2_with fail
    all_goals (go_ret; exact ⟨rfl, Below.refl _ _⟩)

set_option maxRecDepth 100000 in
set_option maxHeartbeats 4000000 in
theorem settles_walk (w : World) (xl xm : Bool) (t u : Int)
    (a1 : Option Addr) (n1 c1 b1 o1 : Nat) (f : Nat → ByteArray) (h1 : Rd w 25 a1 n1 c1 b1 o1 fun k => .string (f k)) (hf : ∀ k, k < n1 → (f k).size ≤ maxLen)
    (a2 : Option Addr) (c2 b2 o2 : Nat) (p : Nat → Bool) (h2 : Rd w 29 a2 n1 c2 b2 o2 fun k => .bool (p k))
    (a3 : Option Addr) (n3 c3 b3 o3 : Nat) (g : Nat → ByteArray) (h3 : Rd w 25 a3 n3 c3 b3 o3 fun k => .string (g k)) (hg : ∀ k, k < n3 → (g k).size ≤ maxLen)
    (a4 : Option Addr) (c4 b4 o4 : Nat) (q : Nat → Bool) (h4 : Rd w 29 a4 n3 c4 b4 o4 fun k => .bool (q k)) :
    Calls Try.prog 8 #[.bool xl, .slice a1 n1 c1, .slice a2 n1 c2, .int .i64 t, .bool xm, .slice a3 n3 c3, .slice a4 n3 c4, .int .i64 u] w fun e w' => e = .returned (.bool true) ∧ Below w.heap.size w w' := by
  have s1 := h1.small
  have s3 := h3.small
  unfold maxLen at s1 s3
  go_enter Try.func8, Try.ntmps8
  go_wp2_with fail
  refine (bytesS_calls w xl xm t u a1 n1 c1 b1 o1 f h1 hf a3 n3 c3 b3 o3 g h3 hg a2 n1 c2 h2.small a4 n3 c4 h4.small).mono ?_
  rintro e w' ⟨he, rfl⟩
  rcases he with rfl | rfl
  · go_wp2_with fail
    go_ret
    exact ⟨rfl, Below.refl _ _⟩
  go_wp2_with fail
  all_goals first | (go_ret; exact ⟨rfl, Below.refl _ _⟩) | skip
  refine (strs_calls w' a1 n1 c1 b1 o1 f h1 (by omega) hf).mono ?_
  rintro e w1 ⟨⟨r1, rfl, r1a, r1b⟩, rfl⟩
  go_wp2_with fail
  refine (strs_calls w1 a3 n3 c3 b3 o3 g h3 (by omega) hg).mono ?_
  rintro e w0 ⟨⟨r2, rfl, r2a, r2b⟩, rfl⟩
  have k1 : n1 ≤ 65536 := by omega
  have k3 : n3 ≤ 65536 := by omega
  go_wp2_with fail
  all_goals first | (go_ret; exact ⟨rfl, Below.refl _ _⟩) | skip
  refine (copyStrs_calls w0 a1 n1 c1 b1 o1 f h1 k1).mono ?_
  rintro e w1 ⟨d1, e1, f1, rfl, R1, _, B1⟩
  go_wp2_with fail
  refine (copyBools_calls w1 a2 n1 c2 b2 o2 p (h2.keep B1) k1).mono ?_
  rintro e w2 ⟨d2, e2, f2, rfl, R2, _, B2⟩
  have B2' := B1.trans (B2.mono B1.size)
  go_wp2_with fail
  refine (copyStrs_calls w2 a3 n3 c3 b3 o3 g (h3.keep B2') k3).mono ?_
  rintro e w3 ⟨d3, e3, f3, rfl, R3, _, B3⟩
  have B3' := B2'.trans (B3.mono B2'.size)
  go_wp2_with fail
  refine (copyBools_calls w3 a4 n3 c4 b4 o4 q (h4.keep B3') k3).mono ?_
  rintro e w4 ⟨d4, e4, f4, rfl, R4, _, B4⟩
  have B4' := B3'.trans (B4.mono B3'.size)
  replace R3 := R3.keep B4
  replace R2 := (R2.keep B3).keep B4
  replace R1 := ((R1.keep B2).keep B3).keep B4
  clear B1 B2 B3 B4 B2' B3' h1 h2 h3 h4
  go_wp2_with fail
  have BT := B4'
  clear B4'
  refine (new_any w4 xl t d1 n1 e1 f1 0 f R1 k1 d2 e2 f2 0 p R2).mono ?_
  rintro e w5 ⟨vl, pl, bl, rfl, L, _, hbl, hbl', B5⟩
  replace R1 := R1.keep B5
  replace R2 := R2.keep B5
  replace R3 := R3.keep B5
  replace R4 := R4.keep B5
  replace BT := BT.trans (B5.mono BT.size)
  go_wp2_with fail
  refine (new_any w5 xm u d3 n3 e3 f3 0 g R3 k3 d4 e4 f4 0 q R4).mono ?_
  rintro e w6 ⟨vm, pm, bm, rfl, M, _, hbm, hbm', B6⟩
  replace R1 := R1.keep B6
  replace R2 := R2.keep B6
  replace R3 := R3.keep B6
  replace R4 := R4.keep B6
  replace L := L.keep B6
  replace BT := BT.trans (B6.mono BT.size)
  have ql := L.neq
  have zl := guard_neq L.ptr L.ptr
  go_wp2_with fail
  refine (alike22 w6 xl xm vl vm n1 n3 f g p q t u pl bl pm bm L M).mono ?_
  rintro e w7 ⟨vr, rfl, hres, B7⟩
  obtain ⟨FR, xr, nr, tr, kr, tor, pr, br, LR⟩ := res_fix w6 w7 xl xm vl vm vr n1 n3 f g p q t u pl bl pm bm L M (fun e => (hbm' e).2) B7 hres
  clear hres
  have qr := LR.neq
  have zr := guard_neq LR.ptr LR.ptr
  replace R1 := R1.keep B7
  replace R2 := R2.keep B7
  replace R3 := R3.keep B7
  replace R4 := R4.keep B7
  replace L := L.keep B7
  replace M := M.keep B7
  replace BT := BT.trans (B7.mono BT.size)
  go_wp2_with fail
  refine (view_any w7 xr vr nr tr kr tor pr br LR).mono ?_
  rintro e w8 ⟨m0, a5, c5, a6, c6, t0, rfl, V0, B8⟩
  replace R1 := R1.keep B8
  replace R2 := R2.keep B8
  replace R3 := R3.keep B8
  replace R4 := R4.keep B8
  replace L := L.keep B8
  replace M := M.keep B8
  replace LR := LR.keep B8
  replace BT := BT.trans (B8.mono BT.size)
  go_wp2_with fail
  refine (FR w8 B8).mono ?_
  rintro e w9 ⟨rfl, B9⟩
  replace R1 := R1.keep B9
  replace R2 := R2.keep B9
  replace R3 := R3.keep B9
  replace R4 := R4.keep B9
  replace L := L.keep B9
  replace M := M.keep B9
  replace LR := LR.keep B9
  replace V0 := V0.keep B9
  replace BT := BT.trans (B9.mono BT.size)
  go_wp2_with fail
  refine (view_any w9 xr vr nr tr kr tor pr br LR).mono ?_
  rintro e w10 ⟨m1, a7, c7, a8, c8, t1, rfl, V1, B10⟩
  replace R1 := R1.keep B10
  replace R2 := R2.keep B10
  replace R3 := R3.keep B10
  replace R4 := R4.keep B10
  replace L := L.keep B10
  replace M := M.keep B10
  replace V0 := V0.keep B10
  replace BT := BT.trans (B10.mono BT.size)
  clear LR FR qr zr
  go_wp2_with fail
  refine (viewIs_any w10 xr m1 a7 c7 a8 c8 t1 m0 a5 c5 a6 c6 t0 nr tr kr tor V1 V0).mono ?_
  rintro e w11 ⟨rfl, B11⟩
  replace R1 := R1.keep B11
  replace R2 := R2.keep B11
  replace R3 := R3.keep B11
  replace R4 := R4.keep B11
  replace L := L.keep B11
  replace M := M.keep B11
  replace BT := BT.trans (B11.mono BT.size)
  clear V0 V1
  go_wp2_with fail
  refine (fix_of w11 xl xl vl vl n1 n1 f f p p t t pl bl pl bl L L (fun e => absurd rfl e) (fun _ _ => .inl rfl) w11 (Below.refl _ _)).mono ?_
  rintro e w12 ⟨rfl, B12⟩
  replace R1 := R1.keep B12
  replace R2 := R2.keep B12
  replace R3 := R3.keep B12
  replace R4 := R4.keep B12
  replace L := L.keep B12
  replace M := M.keep B12
  replace BT := BT.trans (B12.mono BT.size)
  go_wp2_with fail
  refine (new_any w12 xl t d1 n1 e1 f1 0 f R1 k1 d2 e2 f2 0 p R2).mono ?_
  rintro e w13 ⟨vc, pc, bc, rfl, C, _, _, _, B13⟩
  replace R1 := R1.keep B13
  replace R2 := R2.keep B13
  replace R3 := R3.keep B13
  replace R4 := R4.keep B13
  replace L := L.keep B13
  replace M := M.keep B13
  replace BT := BT.trans (B13.mono BT.size)
  go_wp2_with fail
  refine (fix_of w13 xl xl vl vc n1 n1 f f p p t t pl bl pc bc L C (fun e => absurd rfl e) (fun _ _ => .inr (rs_same f f p p n1 (fun _ _ => rfl) (fun _ _ => rfl) n1 (Nat.le_refl _))) w13 (Below.refl _ _)).mono ?_
  rintro e w14 ⟨rfl, B14⟩
  replace R1 := R1.keep B14
  replace R2 := R2.keep B14
  replace R3 := R3.keep B14
  replace R4 := R4.keep B14
  replace L := L.keep B14
  replace M := M.keep B14
  replace C := C.keep B14
  replace BT := BT.trans (B14.mono BT.size)
  go_wp2_with fail
  refine (view_any w14 xl vl n1 f p t pl bl L).mono ?_
  rintro e w15 ⟨m2, a9, c9, a10, c10, t2, rfl, V2, B15⟩
  replace R1 := R1.keep B15
  replace R2 := R2.keep B15
  replace R3 := R3.keep B15
  replace R4 := R4.keep B15
  replace M := M.keep B15
  replace C := C.keep B15
  replace BT := BT.trans (B15.mono BT.size)
  clear L ql zl
  go_wp2_with fail
  refine (viewIs_any w15 xl m2 a9 c9 a10 c10 t2 n1 d1 e1 d2 e2 t n1 f p t V2 (view_self xl R1 R2)).mono ?_
  rintro e w16 ⟨rfl, B16⟩
  replace R1 := R1.keep B16
  replace R2 := R2.keep B16
  replace R3 := R3.keep B16
  replace R4 := R4.keep B16
  replace M := M.keep B16
  replace C := C.keep B16
  replace BT := BT.trans (B16.mono BT.size)
  clear V2
  go_wp2_with fail
  refine (view_any w16 xl vc n1 f p t pc bc C).mono ?_
  rintro e w17 ⟨m3, a11, c11, a12, c12, t3, rfl, V3, B17⟩
  replace R1 := R1.keep B17
  replace R2 := R2.keep B17
  replace R3 := R3.keep B17
  replace R4 := R4.keep B17
  replace M := M.keep B17
  replace BT := BT.trans (B17.mono BT.size)
  clear C
  go_wp2_with fail
  refine (viewIs_any w17 xl m3 a11 c11 a12 c12 t3 n1 d1 e1 d2 e2 t n1 f p t V3 (view_self xl R1 R2)).mono ?_
  rintro e w18 ⟨rfl, B18⟩
  replace R3 := R3.keep B18
  replace R4 := R4.keep B18
  replace M := M.keep B18
  replace BT := BT.trans (B18.mono BT.size)
  clear V3
  go_wp2_with fail
  refine (view_any w18 xm vm n3 g q u pm bm M).mono ?_
  rintro e w19 ⟨m4, a13, c13, a14, c14, t4, rfl, V4, B19⟩
  replace R3 := R3.keep B19
  replace R4 := R4.keep B19
  replace BT := BT.trans (B19.mono BT.size)
  clear M
  go_wp2_with fail
  refine (viewIs_any w19 xm m4 a13 c13 a14 c14 t4 n3 d3 e3 d4 e4 u n3 g q u V4 (view_self xm R3 R4)).mono ?_
  rintro e w20 ⟨rfl, B20⟩
  replace BT := BT.trans (B20.mono BT.size)
  go_wp2_with fail
  go_ret
  exact ⟨rfl, BT⟩
end Go.Proofs.Qxb6600630a
