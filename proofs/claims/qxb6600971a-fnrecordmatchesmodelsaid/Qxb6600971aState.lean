/-
  The log's state as one: the list, the map; the plain step; 'record' on it.
-/
import Derived.Test.Qxb6600971aRecord3
namespace Go.Proofs.Qxb6600971a
open Go.RowKit Go.Deep

/-- a step, as the program's struct holds it -/
structure St where
  id : ByteArray
  seq : Int
  n : Int
  first : Int
  now : Int
deriving DecidableEq

def Cl.dat (c : Cl) : St := ⟨c.id, c.seq, c.ent, c.first, c.tm⟩

/-- is the step refused? -/
def refused (D : List St) (s : St) : Bool := D.any fun e => decide (e.id = s.id ∧ s.seq ≤ e.seq)
/-- the plain step -/
def rec1 (D : List St) (s : St) : List St := if refused D s then D else (D.filter fun e => decide (e.id ≠ s.id)) ++ [s]

/-- the log's state: the list L; the map M; all of it at B or above -/
structure ST (w : World) (r : Nat) (mo : Option Nat) (L : List Cl) (M : ByteArray → Option Nat) (now : Int) (B : Nat) : Prop where
  ls : LS w r mo L now L.length
  map : MapIs w mo M L.length
  found : ∀ c ∈ L, M c.id = some c.blk ∧ c.id.size ≤ maxLen
  free : ∀ s, (∀ c ∈ L, c.id ≠ s) → M s = none
  base : ∀ k, (Mine r L k ∨ mo = some k) → B ≤ k
  low : B ≤ w.heap.size

theorem ST.keep {w w' : World} {r : Nat} {mo : Option Nat} {L : List Cl} {M : ByteArray → Option Nat} {now : Int} {B : Nat} (h : ST w r mo L M now B) (hb : Below w.heap.size w w') : ST w' r mo L M now B :=
  ⟨h.ls.keep hb, h.map.of_block (fun mb e => by subst e; exact hb.block mb h.map.lt), h.found, h.free, h.base, Nat.le_trans h.low hb.size⟩

theorem Turn.belowB {S : Nat → Prop} {a w : World} {B : Nat} (h : Turn S a w) (hB : B ≤ a.heap.size) (hs : ∀ k, S k → B ≤ k) : Below B a w :=
  h.below hB (fun k hk g => by have := hs k g; omega)

theorem ids_ne {w : World} {r : Nat} {mo : Option Nat} {A Z : List Cl} {c : Cl} {M : ByteArray → Option Nat} {now : Int} {B : Nat} (h : ST w r mo (A ++ c :: Z) M now B) : (∀ x ∈ A, x.id ≠ c.id) ∧ (∀ x ∈ Z, x.id ≠ c.id) := by
  obtain ⟨m1, m2, _, _⟩ := nd_apart h.ls.nd
  have hc := (h.found c (by simp)).1
  constructor <;> intro x hx e
  · have := (h.found x (by simp [hx])).1
    rw [e, hc] at this
    exact m1 x hx (Option.some.inj this).symm
  · have := (h.found x (by simp [hx])).1
    rw [e, hc] at this
    exact m2 x hx (Option.some.inj this).symm

theorem filter_ids {A : List Cl} {s : ByteArray} (h : ∀ x ∈ A, x.id ≠ s) : (A.map Cl.dat).filter (fun e => decide (e.id ≠ s)) = A.map Cl.dat := by
  rw [List.filter_eq_self]
  intro e he
  obtain ⟨x, hx, rfl⟩ := List.mem_map.1 he
  exact decide_eq_true (h x hx)

theorem not_refused {A : List Cl} {s : St} (h : ∀ x ∈ A, x.id = s.id → x.seq < s.seq) : refused (A.map Cl.dat) s = false := by
  unfold refused
  rw [List.any_eq_false]
  intro e he
  obtain ⟨x, hx, rfl⟩ := List.mem_map.1 he
  intro g
  obtain ⟨g1, g2⟩ := of_decide_eq_true g
  simp only [Cl.dat] at g1 g2
  have := h x hx g1
  omega

theorem upd_same (M : ByteArray → Option Nat) (s : ByteArray) (b : Nat) : upd M s b s = some b := by simp [upd]
theorem upd_other {M : ByteArray → Option Nat} {s x : ByteArray} {b : Nat} (h : x ≠ s) : upd M s b x = M x := by simp [upd, h]

theorem st_new {w w' : World} {r b mb : Nat} {mo : Option Nat} {L : List Cl} {M : ByteArray → Option Nat} {now : Int} {B : Nat} {s : St} (h : ST w r mo L M now B) (hno : ∀ c ∈ L, c.id ≠ s.id) (hid : s.id.size ≤ maxLen) (hb : w.heap.size ≤ b) (hmb : B ≤ mb)
    (h1 : LS w' r (some mb) (L ++ [⟨b, s.id, s.seq, s.first, s.n, now⟩]) now (L.length + 1)) (h2 : MapIs w' (some mb) (upd M s.id b) (L.length + 1)) (hs : w.heap.size ≤ w'.heap.size) :
    ST w' r (some mb) (L ++ [⟨b, s.id, s.seq, s.first, s.n, now⟩]) (upd M s.id b) now B := by
  have hl := h.low
  refine ⟨?_, ?_, ?_, ?_, ?_, by omega⟩
  · have : (((L ++ [(⟨b, s.id, s.seq, s.first, s.n, now⟩ : Cl)]).length : Nat) : Int) = L.length + 1 := by simp
    rw [this]; exact h1
  · have : (L ++ [(⟨b, s.id, s.seq, s.first, s.n, now⟩ : Cl)]).length = L.length + 1 := by simp
    rw [this]; exact h2
  · intro c hc
    rcases List.mem_append.1 hc with hc | hc
    · rw [upd_other (hno c hc)]; exact h.found c hc
    · rcases List.mem_singleton.1 hc with rfl
      exact ⟨upd_same _ _ _, hid⟩
  · intro x hx
    have : s.id ≠ x := hx ⟨b, s.id, s.seq, s.first, s.n, now⟩ (by simp)
    rw [upd_other (Ne.symm this)]
    exact h.free x (fun c hc => hx c (by simp [hc]))
  · rintro k ((e | ⟨x, hx, e⟩) | e)
    · exact h.base k (.inl (.inl e))
    · rcases List.mem_append.1 hx with hx | hx
      · exact h.base k (.inl (.inr ⟨x, hx, e⟩))
      · rcases List.mem_singleton.1 hx with rfl
        simp only at e
        omega
    · cases e; exact hmb

/-- 'record' is the plain step -/
theorem record_calls (w : World) (r : Nat) (mo : Option Nat) (L : List Cl) (M : ByteArray → Option Nat) (B : Nat) (s : St) (h : ST w r mo L M s.now B) (hid : s.id.size ≤ maxLen) (hcnt : L.length ≤ 100000) :
    Calls Try.prog 25 #[ptr r, .agg #[.string s.id, .int .u64 s.seq], .int .i64 s.n, .int .u64 s.first] w fun e w' => e = .returned (.bool (!refused (L.map Cl.dat) s)) ∧ Below B w w' ∧
      ∃ mo' L' M', ST w' r mo' L' M' s.now B ∧ L'.map Cl.dat = rec1 (L.map Cl.dat) s := by
  have hl := h.low
  by_cases hin : ∃ c ∈ L, c.id = s.id
  · obtain ⟨c, hc, hcs⟩ := hin
    obtain ⟨A, Z, rfl⟩ := List.append_of_mem hc
    obtain ⟨hM, _⟩ := h.found c hc
    obtain ⟨iA, iZ⟩ := ids_ne h
    by_cases hle : s.seq ≤ c.seq
    · obtain ⟨pv, nx, hn⟩ := seg_node h.ls.seg c hc
      have hR : refused ((A ++ c :: Z).map Cl.dat) s = true := by
        unfold refused
        rw [List.any_eq_true]
        exact ⟨c.dat, List.mem_map_of_mem hc, by simp [Cl.dat, hcs, hle]⟩
      have := record_old w r mo (A ++ c :: Z) M _ s.now _ c pv nx s.seq s.n s.first h.ls h.map hM (by rw [hcs]; exact hid) hn hle
      rw [hcs] at this
      refine this.mono ?_
      rintro e w' ⟨rfl, hb⟩
      exact ⟨by rw [hR]; rfl, hb.mono hl, mo, A ++ c :: Z, M, h.keep hb, by rw [rec1, hR]; rfl⟩
    · have hR : refused ((A ++ c :: Z).map Cl.dat) s = false := not_refused (by
        intro x hx e
        simp only [List.mem_append, List.mem_cons] at hx
        rcases hx with hx | rfl | hx
        · exact absurd (e.trans hcs.symm) (iA x hx)
        · omega
        · exact absurd (e.trans hcs.symm) (iZ x hx))
      have := record_again w r mo A Z M _ s.now _ c s.seq s.n s.first h.ls h.map hM (by rw [hcs]; exact hid) (by omega)
      rw [hcs] at this
      refine this.mono ?_
      rintro e w' ⟨rfl, h1, h2, ht⟩
      have hlen : (((A ++ Z) ++ [newer c s.seq s.n s.first s.now]).length) = (A ++ c :: Z).length := by simp <;> omega
      refine ⟨by rw [hR]; rfl, ht.belowB hl (fun k hk => h.base k (.inl hk)), mo, (A ++ Z) ++ [newer c s.seq s.n s.first s.now], M, ⟨?_, ?_, ?_, ?_, ?_, Nat.le_trans hl ht.size⟩, ?_⟩
      · rw [hlen]; exact h1
      · rw [hlen]; exact h2
      · intro x hx
        simp only [List.mem_append, List.mem_singleton] at hx
        rcases hx with (hx | hx) | rfl
        · exact h.found x (by simp [hx])
        · exact h.found x (by simp [hx])
        · exact h.found c hc
      · intro x hx
        refine h.free x (fun y hy => ?_)
        simp only [List.mem_append, List.mem_cons] at hy
        rcases hy with hy | rfl | hy
        · exact hx y (by simp [hy])
        · exact hx (newer y s.seq s.n s.first s.now) (by simp)
        · exact hx y (by simp [hy])
      · rintro k (hk | hk)
        · exact h.base k (.inl (mine_newer hk))
        · exact h.base k (.inr hk)
      · rw [rec1, hR]
        have fA := filter_ids (fun x hx => by rw [← hcs]; exact iA x hx) (A := A) (s := s.id)
        have fZ := filter_ids (fun x hx => by rw [← hcs]; exact iZ x hx) (A := Z) (s := s.id)
        simp only [List.map_append, List.map_cons, List.filter_append, List.filter_cons, fA, fZ]
        simp [Cl.dat, newer, hcs]
  · have hno : ∀ c ∈ L, c.id ≠ s.id := fun c hc e => hin ⟨c, hc, e⟩
    have hM := h.free s.id hno
    have hR : refused (L.map Cl.dat) s = false := not_refused (fun x hx e => absurd e (hno x hx))
    have hD : ∀ b, (L ++ [(⟨b, s.id, s.seq, s.first, s.n, s.now⟩ : Cl)]).map Cl.dat = rec1 (L.map Cl.dat) s := by
      intro b
      rw [rec1, hR]
      have := filter_ids hno
      simp only [List.map_append, this]
      simp [Cl.dat]
    cases mo with
    | none =>
      have h0 : L.length = 0 := h.map.2
      have hls := h.ls
      have hmp := h.map
      rw [h0] at hls hmp
      refine (record_new0 w r L M s.now s.id s.seq s.n s.first hls hmp hid).mono ?_
      rintro e w' ⟨rfl, mb, b, hb, h1, h2, hmb, ht⟩
      refine ⟨by rw [hR]; rfl, ht.belowB hl (fun k hk => h.base k hk), _, _, _, st_new h hno hid hb (mb := mb) (by omega) ?_ ?_ ht.size, hD b⟩
      · rw [h0]; exact h1
      · rw [h0]; exact h2
    | some mb =>
      refine (record_new w r mb L M L.length s.now s.id s.seq s.n s.first h.ls h.map hM hid hcnt).mono ?_
      rintro e w' ⟨rfl, b, hb, h1, h2, ht⟩
      exact ⟨by rw [hR]; rfl, ht.belowB hl (fun k hk => h.base k hk), _, _, _, st_new h hno hid hb (h.base mb (.inr rfl)) h1 h2 ht.size, hD b⟩
end Go.Proofs.Qxb6600971a
