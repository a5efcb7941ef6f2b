/-
  'push' and 'unlink' on the list as a whole.
-/
import Derived.Test.Qxb6600971aLinks
namespace Go.Proofs.Qxb6600971a
open Go.RowKit Go.Deep

theorem push_calls (w : World) (r : Nat) (mo : Option Nat) (L : List Cl) (now peak : Int) (c : Cl) (pv : Value) (h : LS w r mo L now peak) (hc : Node w c pv nil) (hpv : ∃ a, pv = .pointer a) (hn : ∀ x ∈ L, x.blk ≠ c.blk) :
    Calls Try.prog 34 #[ptr r, ptr c.blk] w fun e w' => e = .returned (.tuple #[]) ∧ LS w' r mo (L ++ [c]) now peak ∧ Turn (Mine r (L ++ [c])) w w' := by
  have hcr := node_rq_ne hc h.rq
  have hnd : ((L ++ [c]).map Cl.blk).Nodup := by
    simp only [List.map_append, List.nodup_append]
    refine ⟨h.nd, by simp, ?_⟩
    intro a ha b hb
    obtain ⟨x, hx, rfl⟩ := List.mem_map.1 ha
    simp at hb
    subst hb
    exact hn x hx
  have mc : Mine r (L ++ [c]) c.blk := .inr ⟨c, by simp, rfl⟩
  rcases snoc_cases L with rfl | ⟨A, a, rfl⟩
  · refine (push_nil w r mo now peak c pv h.rq hc hpv).mono ?_
    rintro e w' ⟨rfl, rfl⟩
    refine ⟨rfl, ⟨?_, ?_, hnd⟩, ?_⟩
    · exact (rq_set ((rq_set (rq_setOther h.rq (a := ⟨c.blk, 5, none⟩) (fun e => hcr e.symm) _)).1 _)).2.1 _
    · exact ⟨node_setOther (node_setOther (node_setPrev hc _) (a := ⟨r, 1, none⟩) hcr _) (a := ⟨r, 2, none⟩) hcr _, trivial⟩
    · exact (((Turn.refl _ w).setCell (p := ⟨c.blk, 5, none⟩) mc _).setCell (p := ⟨r, 1, none⟩) (.inl rfl) _).setCell (p := ⟨r, 2, none⟩) (.inl rfl) _
  · obtain ⟨pa, ha⟩ := seg_ptr h.seg
    have hca : c.blk ≠ a.blk := fun e => hn a (by simp) e.symm
    have har := h.ne a (by simp)
    have hrq := h.rq
    rw [lastv_snoc] at hrq
    refine (push_some w r mo _ now peak c a pv pa nil hrq hc ha hca hpv ⟨_, rfl⟩).mono ?_
    rintro e w' ⟨rfl, rfl⟩
    have nda := nd_apart (A := A) (c := a) (Z := []) h.nd
    refine ⟨rfl, ⟨?_, ?_, hnd⟩, ?_⟩
    · have e1 : hdv nil (A ++ [a] ++ [c]) = hdv nil (A ++ [a]) := by cases A <;> rfl
      rw [lastv_snoc, e1]
      exact (rq_set (rq_setOther (rq_setOther hrq (a := ⟨c.blk, 5, none⟩) (fun e => hcr e.symm) _) (a := ⟨a.blk, 6, none⟩) (fun e => har e.symm) _)).2.1 _
    · rw [seg_append]
      refine ⟨?_, ?_, trivial⟩
      · exact seg_setOther (seg_setNext (seg_setOther h.seg (a := ⟨c.blk, 5, none⟩) hn _) nda.1 _) (a := ⟨r, 2, none⟩) h.ne _
      · rw [lastv_snoc]
        exact node_setOther (node_setOther (node_setPrev hc _) (a := ⟨a.blk, 6, none⟩) hca _) (a := ⟨r, 2, none⟩) hcr _
    · exact (((Turn.refl _ w).setCell (p := ⟨c.blk, 5, none⟩) mc _).setCell (p := ⟨a.blk, 6, none⟩) (.inr ⟨a, by simp, rfl⟩) _).setCell (p := ⟨r, 2, none⟩) (.inl rfl) _

theorem node_draws {w : World} {c : Cl} {pv nx : Value} (h : Node w c pv nx) (d : Nat) : Node (w.drewN d) c pv nx := h
theorem ls_draws {w : World} {r : Nat} {mo : Option Nat} {L : List Cl} {now peak : Int} (h : LS w r mo L now peak) (d : Nat) : LS (w.drewN d) r mo L now peak := ls_of_blocks h (fun _ _ => rfl)

theorem unlink_calls (w : World) (r : Nat) (mo : Option Nat) (A Z : List Cl) (now peak : Int) (c : Cl) (h : LS w r mo (A ++ c :: Z) now peak) :
    Calls Try.prog 33 #[ptr r, ptr c.blk] w fun e w' => e = .returned (.tuple #[]) ∧ LS w' r mo (A ++ Z) now peak ∧ Node w' c nil nil ∧ Turn (Mine r (A ++ c :: Z)) w w' := by
  obtain ⟨n1, n2, n3, n4⟩ := nd_apart h.nd
  have hcr := h.ne c (by simp)
  have hseg := h.seg
  rw [seg_append] at hseg
  obtain ⟨sA, sc, sZ⟩ := hseg
  have hrq := h.rq
  rw [hdv_append, lastv_append] at hrq
  have rZ : ∀ x ∈ Z, x.blk ≠ r := fun x hx => h.ne x (by simp [hx])
  have rA : ∀ x ∈ A, x.blk ≠ r := fun x hx => h.ne x (by simp [hx])
  have mc : Mine r (A ++ c :: Z) c.blk := .inr ⟨c, by simp, rfl⟩
  rcases snoc_cases A with rfl | ⟨A', a, rfl⟩
  · cases Z with
    | nil =>
      refine (unlink_only w r mo now peak c hrq sc).mono ?_
      rintro e w' ⟨rfl, d, rfl⟩
      refine ⟨rfl, ls_draws (L := []) ⟨?_, True.intro, n3⟩ d, node_draws ?_ d, Turn.draws ?_ d⟩
      · exact rq_setOther (rq_setOther ((rq_set ((rq_set hrq).1 nil)).2.1 nil) (a := ⟨c.blk, 5, none⟩) (fun e => hcr e.symm) _) (a := ⟨c.blk, 6, none⟩) (fun e => hcr e.symm) _
      · exact node_setNext (node_setPrev (node_setOther (node_setOther sc (a := ⟨r, 1, none⟩) hcr _) (a := ⟨r, 2, none⟩) hcr _) _) _
      · exact ((((Turn.refl _ w).setCell (p := ⟨r, 1, none⟩) (.inl rfl) _).setCell (p := ⟨r, 2, none⟩) (.inl rfl) _).setCell (p := ⟨c.blk, 5, none⟩) mc _).setCell (p := ⟨c.blk, 6, none⟩) mc _
    | cons z Z =>
      have hcz : c.blk ≠ z.blk := fun e => n2 z (by simp) e.symm
      have hzr := rZ z (by simp)
      have ndz : ∀ x ∈ Z, x.blk ≠ z.blk := (nd_apart (A := []) (c := z) (Z := Z) (by simpa using n3)).2.1
      refine (unlink_first w r mo _ now peak c z _ hrq sc sZ.1 hcz).mono ?_
      rintro e w' ⟨rfl, d, rfl⟩
      refine ⟨rfl, ls_draws ⟨?_, ?_, n3⟩ d, node_draws ?_ d, Turn.draws ?_ d⟩
      · exact rq_setOther (rq_setOther (rq_setOther ((rq_set hrq).1 _) (a := ⟨z.blk, 5, none⟩) (fun e => hzr e.symm) _) (a := ⟨c.blk, 5, none⟩) (fun e => hcr e.symm) _) (a := ⟨c.blk, 6, none⟩) (fun e => hcr e.symm) _
      · exact seg_setOther (seg_setOther (seg_setPrev (seg_setOther sZ (a := ⟨r, 1, none⟩) rZ _) ndz _) (a := ⟨c.blk, 5, none⟩) n2 _) (a := ⟨c.blk, 6, none⟩) n2 _
      · exact node_setNext (node_setPrev (node_setOther (node_setOther sc (a := ⟨r, 1, none⟩) hcr _) (a := ⟨z.blk, 5, none⟩) hcz _) _) _
      · exact ((((Turn.refl _ w).setCell (p := ⟨r, 1, none⟩) (.inl rfl) _).setCell (p := ⟨z.blk, 5, none⟩) (.inr ⟨z, by simp, rfl⟩) _).setCell (p := ⟨c.blk, 5, none⟩) mc _).setCell (p := ⟨c.blk, 6, none⟩) mc _
  · have hca : c.blk ≠ a.blk := fun e => n1 a (by simp) e.symm
    have har := rA a (by simp)
    rw [lastv_snoc] at sc hrq
    obtain ⟨pa, ha⟩ := seg_ptr sA
    have nda : ∀ x ∈ A', x.blk ≠ a.blk := (nd_apart (A := A') (c := a) (Z := Z) (by simpa using n3)).1
    cases Z with
    | nil =>
      refine (unlink_last w r mo _ now peak c a pa hrq sc ha hca).mono ?_
      rintro e w' ⟨rfl, d, rfl⟩
      refine ⟨rfl, ls_draws ⟨?_, ?_, n3⟩ d, node_draws ?_ d, Turn.draws ?_ d⟩
      · have e1 : hdv nil (A' ++ [a] ++ []) = hdv (hdv nil [c]) (A' ++ [a]) := by cases A' <;> rfl
        rw [List.append_nil, lastv_snoc]
        rw [List.append_nil] at e1
        rw [e1]
        exact rq_setOther (rq_setOther ((rq_set (rq_setOther hrq (a := ⟨a.blk, 6, none⟩) (fun e => har e.symm) _)).2.1 _) (a := ⟨c.blk, 5, none⟩) (fun e => hcr e.symm) _) (a := ⟨c.blk, 6, none⟩) (fun e => hcr e.symm) _
      · rw [List.append_nil]
        exact seg_setOther (seg_setOther (seg_setOther (seg_setNext sA nda _) (a := ⟨r, 2, none⟩) rA _) (a := ⟨c.blk, 5, none⟩) n1 _) (a := ⟨c.blk, 6, none⟩) n1 _
      · exact node_setNext (node_setPrev (node_setOther (node_setOther sc (a := ⟨a.blk, 6, none⟩) hca _) (a := ⟨r, 2, none⟩) hcr _) _) _
      · exact ((((Turn.refl _ w).setCell (p := ⟨a.blk, 6, none⟩) (.inr ⟨a, by simp, rfl⟩) _).setCell (p := ⟨r, 2, none⟩) (.inl rfl) _).setCell (p := ⟨c.blk, 5, none⟩) mc _).setCell (p := ⟨c.blk, 6, none⟩) mc _
    | cons z Z =>
      have hcz : c.blk ≠ z.blk := fun e => n2 z (by simp) e.symm
      have haz : a.blk ≠ z.blk := n4 a (by simp) z (by simp)
      have hzr := rZ z (by simp)
      have ndz : ∀ x ∈ Z, x.blk ≠ z.blk := (nd_apart (A := A' ++ [a]) (c := z) (Z := Z) n3).2.1
      have ndaz : ∀ x ∈ z :: Z, x.blk ≠ a.blk := fun x hx e => n4 a (by simp) x hx e.symm
      have ndza : ∀ x ∈ A' ++ [a], x.blk ≠ z.blk := fun x hx => n4 x hx z (by simp)
      refine (unlink_mid w r c a z pa _ sc ha sZ.1 hca hcz haz).mono ?_
      rintro e w' ⟨rfl, d, rfl⟩
      refine ⟨rfl, ls_draws ⟨?_, ?_, n3⟩ d, node_draws ?_ d, Turn.draws ?_ d⟩
      · have e1 : hdv nil (A' ++ [a] ++ z :: Z) = hdv (hdv nil (c :: z :: Z)) (A' ++ [a]) := by cases A' <;> rfl
        rw [e1, lastv_append]
        exact rq_setOther (rq_setOther (rq_setOther (rq_setOther hrq (a := ⟨a.blk, 6, none⟩) (fun e => har e.symm) _) (a := ⟨z.blk, 5, none⟩) (fun e => hzr e.symm) _) (a := ⟨c.blk, 5, none⟩) (fun e => hcr e.symm) _) (a := ⟨c.blk, 6, none⟩) (fun e => hcr e.symm) _
      · rw [seg_append, lastv_snoc]
        constructor
        · exact seg_setOther (seg_setOther (seg_setOther (seg_setNext sA nda _) (a := ⟨z.blk, 5, none⟩) ndza _) (a := ⟨c.blk, 5, none⟩) n1 _) (a := ⟨c.blk, 6, none⟩) n1 _
        · exact seg_setOther (seg_setOther (seg_setPrev (seg_setOther sZ (a := ⟨a.blk, 6, none⟩) ndaz _) ndz _) (a := ⟨c.blk, 5, none⟩) n2 _) (a := ⟨c.blk, 6, none⟩) n2 _
      · exact node_setNext (node_setPrev (node_setOther (node_setOther sc (a := ⟨a.blk, 6, none⟩) hca _) (a := ⟨z.blk, 5, none⟩) hcz _) _) _
      · exact ((((Turn.refl _ w).setCell (p := ⟨a.blk, 6, none⟩) (.inr ⟨a, by simp, rfl⟩) _).setCell (p := ⟨z.blk, 5, none⟩) (.inr ⟨z, by simp, rfl⟩) _).setCell (p := ⟨c.blk, 5, none⟩) mc _).setCell (p := ⟨c.blk, 6, none⟩) mc _
end Go.Proofs.Qxb6600971a
