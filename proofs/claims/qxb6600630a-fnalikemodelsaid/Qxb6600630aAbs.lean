/-
  Lists as the laws handle them: nil or not, by contracts that do not look inside.
-/
import Derived.Test.Qxb6600630aAlikeLoop
import Derived.Lib.Builder
namespace Go.Proofs.Qxb6600630a
open Go.RowKit

/-- v is a list: nil (x), or n values (texts tx, known kn) with 'told' t, the values in block b -/
structure LV (w : World) (x : Bool) (v : Value) (n : Nat) (tx : Nat → ByteArray) (kn : Nat → Bool) (t : Int) (p b : Nat) : Prop where
  nil : x = true → v = .pointer none
  list : x = false → v = .pointer (some ⟨p, 0, none⟩) ∧ ∃ cap, IsList w p b n cap tx kn t

theorem LV.keep {w w' : World} {x : Bool} {v : Value} {n : Nat} {tx : Nat → ByteArray} {kn : Nat → Bool} {t : Int} {p b : Nat} (h : LV w x v n tx kn t p b) (hb : Below w.heap.size w w') : LV w' x v n tx kn t p b :=
  ⟨h.nil, fun e => ⟨(h.list e).1, by obtain ⟨c, hc⟩ := (h.list e).2; exact ⟨c, hc.keep hb⟩⟩⟩

def ln (x : Bool) (n : Nat) : Nat := if x then 0 else n

theorem info60 : ∃ i0, Try.prog.info? 60 = some i0 ∧ i0.size = 2 := by
  have h : (Try.prog.info? 60).map (fun i => i.size) = some 2 := by kernel_rfl
  obtain ⟨i, hi, hz⟩ := Option.map_eq_some_iff.1 h
  exact ⟨i, hi, hz⟩

theorem LV.neq {w : World} {x : Bool} {v : Value} {n : Nat} {tx : Nat → ByteArray} {kn : Nat → Bool} {t : Int} {p b : Nat} (h : LV w x v n tx kn t p b) (u : World) : (binOp .neq 36 v v).run Try.prog u = .ok (.bool false) u := by
  cases x with
  | true =>
    rw [h.nil rfl, run_neq_pointer_nil _ _ _ (by kernel_rfl)]
    rfl
  | false =>
    rw [(h.list rfl).1]
    obtain ⟨i0, hi0, _⟩ := info60
    exact Lib.run_neq_ptr_same u _ Try.underlying36 hi0

theorem LV.ptr {w : World} {x : Bool} {v : Value} {n : Nat} {tx : Nat → ByteArray} {kn : Nat → Bool} {t : Int} {p b : Nat} (h : LV w x v n tx kn t p b) : ∃ a, v = .pointer a := by
  cases x with
  | true => exact ⟨_, h.nil rfl⟩
  | false => exact ⟨_, (h.list rfl).1⟩

theorem guard_neq {v u : Value} (hv : ∃ a, v = .pointer a) (hu : ∃ a, u = .pointer a) (x y : Operand) : eqGuard .neq 36 x y v u = pure () := by
  obtain ⟨a, rfl⟩ := hv
  obtain ⟨b, rfl⟩ := hu
  rfl
theorem guard_eql {v u : Value} (hv : ∃ a, v = .pointer a) (hu : ∃ a, u = .pointer a) (x y : Operand) : eqGuard .eql 36 x y v u = pure () := by
  obtain ⟨a, rfl⟩ := hv
  obtain ⟨b, rfl⟩ := hu
  rfl

theorem LV.eql {w : World} {x : Bool} {v : Value} {n : Nat} {tx : Nat → ByteArray} {kn : Nat → Bool} {t : Int} {p b : Nat} (h : LV w x v n tx kn t p b) (u : World) : (binOp .eql 36 v v).run Try.prog u = .ok (.bool true) u := by
  cases x with
  | true =>
    rw [h.nil rfl, run_eql_pointer_nil _ _ _ (by kernel_rfl)]
    rfl
  | false =>
    rw [(h.list rfl).1]
    obtain ⟨i0, hi0, _⟩ := info60
    exact run_eql_ptr_same u _ Try.underlying36 hi0

theorem LV.ls {w : World} {x : Bool} {v : Value} {n : Nat} {tx : Nat → ByteArray} {kn : Nat → Bool} {t : Int} {p b : Nat} (h : LV w x v n tx kn t p b) : ∃ a cap, Ls w v a (ln x n) cap := by
  cases x with
  | true => rw [h.nil rfl]; exact ⟨_, _, ls_nil w⟩
  | false =>
    obtain ⟨e, cap, hc⟩ := h.list rfl
    rw [e]
    exact ⟨_, _, ls_some w _ _ _ _ _ _ _ hc⟩

/-- what 'alike' hands back -/
def AlikeRes (w w' : World) (xl xm : Bool) (vl : Value) (nl nm : Nat) (tl tm : Nat → ByteArray) (kl km : Nat → Bool) (bl bm : Nat) (v : Value) : Prop :=
  (ln xl nl ≠ ln xm nm ∧ v = .pointer none) ∨
  (ln xl nl = ln xm nm ∧ v = vl ∧ (ln xl nl = 0 ∨ bl = bm ∨ rs tl tm kl km nl = false)) ∨
  (xl = false ∧ xm = false ∧ nl = nm ∧ 0 < nl ∧ bl ≠ bm ∧ rs tl tm kl km nl = true ∧
    ∃ p b, w.heap.size ≤ p ∧ w.heap.size ≤ b ∧ LV w' false v nl (txr tl tm kl km nl) (knr tl tm kl km nl) (toldTo nl tl tm kl km nl) p b)

theorem alike33 (w : World) (xl xm : Bool) (vl vm : Value) (nl nm : Nat) (tl tm : Nat → ByteArray) (kl km : Nat → Bool) (ol om : Int) (pl bl pm bm : Nat)
    (hl : LV w xl vl nl tl kl ol pl bl) (hm : LV w xm vm nm tm km om pm bm) :
    Calls Try.prog 33 #[vl, vm] w fun e w' => ∃ v, e = .returned v ∧ AlikeRes w w' xl xm vl nl nm tl tm kl km bl bm v ∧ Below w.heap.size w w' := by
  obtain ⟨al, cl, ll⟩ := hl.ls
  obtain ⟨am, cm, lm⟩ := hm.ls
  by_cases hne : ln xl nl = ln xm nm
  · by_cases h0 : ln xl nl = 0
    · rw [h0] at ll
      rw [← hne, h0] at lm
      refine (alike_zero w vl vm al am cl cm ll lm).mono ?_
      rintro e w' ⟨rfl, d, rfl⟩
      exact ⟨vl, rfl, .inr (.inl ⟨hne, rfl, .inl h0⟩), bel_draws (Below.refl _ _) _⟩
    · have hxl : xl = false := by cases xl with | true => simp [ln] at h0 | false => rfl
      have hxm : xm = false := by cases xm with | true => rw [hne] at h0; simp [ln] at h0 | false => rfl
      subst hxl hxm
      have e1 : nl = nm := by simpa [ln] using hne
      subst e1
      have hp : 0 < nl := by simp [ln] at h0; omega
      obtain ⟨el, cl', il⟩ := hl.list rfl
      obtain ⟨em, cm', im⟩ := hm.list rfl
      by_cases hb : bl = bm
      · subst hb
        have sl := ls_some w _ _ _ _ _ _ _ il
        have sm := ls_some w _ _ _ _ _ _ _ im
        rw [← el] at sl
        rw [← em] at sm
        refine (alike_self w vl vm bl nl cl' cm' sl sm hp).mono ?_
        rintro e w' ⟨rfl, d, rfl⟩
        exact ⟨vl, rfl, .inr (.inl ⟨rfl, rfl, .inr (.inl rfl)⟩), bel_draws (Below.refl _ _) _⟩
      · rw [el, em]
        refine (alike_loop w pl bl pm bm nl cl' cm' tl tm kl km ol om il im hb hp).mono ?_
        rintro e w' ⟨h, hbel⟩
        rcases h with ⟨hr, rfl⟩ | ⟨hr, p, b, cap, rfl, h1, h2, h3⟩
        · exact ⟨_, rfl, .inr (.inl ⟨rfl, rfl, .inr (.inr hr)⟩), hbel⟩
        · exact ⟨_, rfl, .inr (.inr ⟨rfl, rfl, rfl, hp, hb, hr, p, b, h1, h2, ⟨(fun e => by cases e), fun _ => ⟨rfl, cap, h3⟩⟩⟩), hbel⟩
  · refine (alike_differ w vl vm al am _ cl _ cm ll lm hne).mono ?_
    rintro e w' ⟨rfl, rfl⟩
    exact ⟨_, rfl, .inl ⟨hne, rfl⟩, Below.refl _ _⟩

set_option maxHeartbeats 400000 in
theorem zz22 (vl vm : Value) (w : World) (R : Value → World → Prop) (h : Calls Try.prog 33 #[vl, vm] w fun e w' => ∃ v, e = .returned v ∧ R v w') :
    Calls Try.prog 22 #[vl, vm] w fun e w' => ∃ v, e = .returned v ∧ R v w' := by
  have H : Hid (Calls Try.prog 33 #[vl, vm] w fun e w' => ∃ v, e = .returned v ∧ R v w') := h
  clear h
  go_enter Try.func22, Try.ntmps22
  go_wp2_with fail
  refine H.out.mono ?_
  rintro e w' ⟨v, rfl, hR⟩
  go_wp2_with fail
  go_ret
  exact ⟨v, rfl, hR⟩

theorem alike22 (w : World) (xl xm : Bool) (vl vm : Value) (nl nm : Nat) (tl tm : Nat → ByteArray) (kl km : Nat → Bool) (ol om : Int) (pl bl pm bm : Nat)
    (hl : LV w xl vl nl tl kl ol pl bl) (hm : LV w xm vm nm tm km om pm bm) :
    Calls Try.prog 22 #[vl, vm] w fun e w' => ∃ v, e = .returned v ∧ AlikeRes w w' xl xm vl nl nm tl tm kl km bl bm v ∧ Below w.heap.size w w' :=
  zz22 vl vm w _ (alike33 w xl xm vl vm nl nm tl tm kl km ol om pl bl pm bm hl hm)

/-- 'alike(v, vm)' is v itself, in every later world -/
def Fix (w : World) (v vm : Value) : Prop := ∀ w', Below w.heap.size w w' → Calls Try.prog 22 #[v, vm] w' fun e w'' => e = .returned v ∧ Below w'.heap.size w' w''

theorem fix_of (w : World) (xl xm : Bool) (vl vm : Value) (nl nm : Nat) (tl tm : Nat → ByteArray) (kl km : Nat → Bool) (ol om : Int) (pl bl pm bm : Nat)
    (hl : LV w xl vl nl tl kl ol pl bl) (hm : LV w xm vm nm tm km om pm bm) (h1 : ln xl nl ≠ ln xm nm → xl = true) (h2 : xl = false → xm = false → bl = bm ∨ rs tl tm kl km nl = false) : Fix w vl vm := by
  intro w' hb
  refine (alike22 w' xl xm vl vm nl nm tl tm kl km ol om pl bl pm bm (hl.keep hb) (hm.keep hb)).mono ?_
  rintro e w'' ⟨v, rfl, hres, hb2⟩
  refine ⟨?_, hb2⟩
  rcases hres with ⟨hne, rfl⟩ | ⟨_, rfl, _⟩ | ⟨e1, e2, _, _, e3, e4, _⟩
  · rw [hl.nil (h1 hne)]
  · rfl
  · rcases h2 e1 e2 with h | h
    · exact absurd h e3
    · rw [e4] at h; cases h

/-- the answer is a list, and 'alike' with m again is the answer itself -/
theorem res_fix (w w' : World) (xl xm : Bool) (vl vm v : Value) (nl nm : Nat) (tl tm : Nat → ByteArray) (kl km : Nat → Bool) (ol om : Int) (pl bl pm bm : Nat)
    (hl : LV w xl vl nl tl kl ol pl bl) (hm : LV w xm vm nm tm km om pm bm) (hbm : xm = false → bm < w.heap.size) (hb : Below w.heap.size w w') (h : AlikeRes w w' xl xm vl nl nm tl tm kl km bl bm v) :
    Fix w' v vm ∧ ∃ x n tx kn t p b, LV w' x v n tx kn t p b := by
  have hm' := hm.keep hb
  have hl' := hl.keep hb
  rcases h with ⟨hne, rfl⟩ | ⟨heq, rfl, h⟩ | ⟨rfl, rfl, rfl, hp, hbne, hr, p, b, h1, h2, h3⟩
  · have hn : LV w' true (.pointer none) 0 tl kl 0 0 0 := ⟨fun _ => rfl, fun e => by cases e⟩
    exact ⟨fix_of w' true xm _ vm 0 nm tl tm kl km 0 om 0 0 pm bm hn hm' (fun _ => rfl) (fun e => by cases e), _, _, _, _, _, _, _, hn⟩
  · refine ⟨fix_of w' xl xm _ vm nl nm tl tm kl km ol om pl bl pm bm hl' hm' (fun e => absurd heq e) ?_, _, _, _, _, _, _, _, hl'⟩
    intro e1 e2
    rcases h with h | h | h
    · subst e1
      simp [ln] at h
      subst h
      exact .inr rfl
    · exact .inl h
    · exact .inr h
  · refine ⟨fix_of w' false false v vm nl nl _ tm _ km _ om p b pm bm h3 hm' (fun e => absurd rfl e) ?_, _, _, _, _, _, _, _, h3⟩
    intro _ _
    exact .inr (rs_again tl tm kl km nl nl (Nat.le_refl _))

/-- a view of a list -/
def View (w : World) (x : Bool) (m : Nat) (a1 : Option Addr) (c1 : Nat) (a2 : Option Addr) (c2 : Nat) (t0 : Int) (n : Nat) (tx : Nat → ByteArray) (kn : Nat → Bool) (t : Int) : Prop :=
  x = true ∨ (x = false ∧ m = n ∧ t0 = t ∧ ∃ b1 o1 b2 o2, Rd w 25 a1 n c1 b1 o1 (fun k => .string (tx k)) ∧ Rd w 29 a2 n c2 b2 o2 (fun k => .bool (kn k)))

theorem View.keep {w w' : World} {x : Bool} {m : Nat} {a1 : Option Addr} {c1 : Nat} {a2 : Option Addr} {c2 : Nat} {t0 : Int} {n : Nat} {tx : Nat → ByteArray} {kn : Nat → Bool} {t : Int} (h : View w x m a1 c1 a2 c2 t0 n tx kn t) (hb : Below w.heap.size w w') :
    View w' x m a1 c1 a2 c2 t0 n tx kn t := by
  rcases h with h | ⟨h1, h2, h3, b1, o1, b2, o2, h4, h5⟩
  · exact .inl h
  · exact .inr ⟨h1, h2, h3, b1, o1, b2, o2, h4.keep hb, h5.keep hb⟩

theorem view_any (w : World) (x : Bool) (v : Value) (n : Nat) (tx : Nat → ByteArray) (kn : Nat → Bool) (t : Int) (p b : Nat) (h : LV w x v n tx kn t p b) :
    Calls Try.prog 23 #[v] w fun e w' => ∃ m a1 c1 a2 c2 t0, e = .returned (.tuple #[.bool x, .slice a1 m c1, .slice a2 m c2, .int .i64 t0]) ∧ View w' x m a1 c1 a2 c2 t0 n tx kn t ∧ Below w.heap.size w w' := by
  cases x with
  | true =>
    rw [h.nil rfl]
    refine (view_nil w).mono ?_
    rintro e w' ⟨rfl, rfl⟩
    exact ⟨0, none, 0, none, 0, 0, rfl, .inl rfl, Below.refl _ _⟩
  | false =>
    obtain ⟨e, cap, hc⟩ := h.list rfl
    rw [e]
    refine (view_some w _ _ _ _ _ _ _ hc).mono ?_
    rintro e w' ⟨rfl, h1, h2, hb⟩
    exact ⟨n, _, _, _, _, t, rfl, .inr ⟨rfl, rfl, rfl, _, _, _, _, h1, h2⟩, hb⟩

theorem viewIs_any (w : World) (x : Bool) (m : Nat) (a1 : Option Addr) (c1 : Nat) (a2 : Option Addr) (c2 : Nat) (t0 : Int) (m' : Nat) (a3 : Option Addr) (c3 : Nat) (a4 : Option Addr) (c4 : Nat) (t1 : Int)
    (n : Nat) (tx : Nat → ByteArray) (kn : Nat → Bool) (t : Int) (h1 : View w x m a1 c1 a2 c2 t0 n tx kn t) (h2 : View w x m' a3 c3 a4 c4 t1 n tx kn t) :
    Calls Try.prog 24 #[.bool x, .slice a1 m c1, .slice a2 m c2, .int .i64 t0, .bool x, .slice a3 m' c3, .slice a4 m' c4, .int .i64 t1] w fun e w' => e = .returned (.bool true) ∧ Below w.heap.size w w' := by
  rcases h1 with rfl | ⟨rfl, rfl, rfl, b1, o1, b2, o2, r1, r2⟩
  · refine (viewIs_nil w _ _ _ _ _ _).mono ?_
    rintro e w' ⟨rfl, rfl⟩
    exact ⟨rfl, Below.refl _ _⟩
  · rcases h2 with h | ⟨_, rfl, rfl, b3, o3, b4, o4, r3, r4⟩
    · cases h
    · refine (viewIs_same w _ _ _ _ _ _ _ r1 _ _ _ _ _ r2 _ _ _ _ _ r3 _ _ _ _ _ r4 (fun _ _ => rfl) (fun _ _ => rfl)).mono ?_
      rintro e w' ⟨rfl, d, rfl⟩
      exact ⟨rfl, bel_draws (Below.refl _ _) _⟩

theorem new_any (w : World) (x : Bool) (t : Int) (a : Option Addr) (n cap b off : Nat) (f : Nat → ByteArray) (h : Rd w 25 a n cap b off fun k => .string (f k)) (hn : n ≤ 65536)
    (a2 : Option Addr) (cap2 b2 off2 : Nat) (p : Nat → Bool) (h2 : Rd w 29 a2 n cap2 b2 off2 fun k => .bool (p k)) :
    Calls Try.prog 21 #[.bool x, .slice a n cap, .slice a2 n cap2, .int .i64 t] w fun e w' => ∃ v p' b', e = .returned v ∧ LV w' x v n f p t p' b' ∧ w.heap.size ≤ p' ∧ w.heap.size ≤ b' ∧ (x = false → p' < w'.heap.size ∧ b' < w'.heap.size) ∧ Below w.heap.size w w' := by
  cases x with
  | true =>
    refine (new_nil w _ _ t).mono ?_
    rintro e w' ⟨rfl, rfl⟩
    exact ⟨_, w'.heap.size, w'.heap.size, rfl, ⟨fun _ => rfl, fun e => by cases e⟩, Nat.le_refl _, Nat.le_refl _, (fun e => by cases e), Below.refl _ _⟩
  | false =>
    refine (new_some w t a n cap b off f h hn a2 cap2 b2 off2 p h2).mono ?_
    rintro e w' ⟨rfl, h1, hb⟩
    exact ⟨_, w.heap.size + 1, w.heap.size, rfl, ⟨(fun e => by cases e), fun _ => ⟨rfl, n, h1⟩⟩, by omega, Nat.le_refl _, fun _ => ⟨h1.pold, h1.bold⟩, hb⟩
end Go.Proofs.Qxb6600630a
