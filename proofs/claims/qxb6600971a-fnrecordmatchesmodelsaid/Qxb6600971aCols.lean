/-
  Columns of a view, as the laws read them; the plain facts for the law of 'unlink'.
-/
import Derived.Test.Qxb6600971aViews
namespace Go.Proofs.Qxb6600971a
open Go.RowKit Go.Deep

/-- the slice '.slice a n cap' of type t reads xs: element k lies at ⟨g, k⟩ -/
structure RdC (w : World) (t : TypeId) (a : Option Addr) (n cap g : Nat) (xs : List Value) : Prop where
  idx : ∀ k : Nat, k < n → ∀ v : World, (Instr.indexAt t (.slice a n cap) (.int .i64 (k : Int))).run Try.prog v = .ok (.pointer (some ⟨g, k, none⟩)) v
  cell : ∀ (k : Nat) (u : Value), xs[k]? = some u → w.cell? ⟨g, k, none⟩ = some u
  old : 0 < n → g < w.heap.size

theorem idxOf (t : TypeId) (h : Try.prog.underlying t = some (.slice (Try.prog.elem t))) (h2 : ∀ v, (sizeOf (Try.prog.elem t)).run Try.prog v = .ok 1 v) (b n cap k : Nat) (hk : k < n) (v : World) :
    (Instr.indexAt t (.slice (some ⟨b, 0, none⟩) n cap) (.int .i64 (k : Int))).run Try.prog v = .ok (.pointer (some ⟨b, k, none⟩)) v := by
  rw [run_indexAt_slice (h := h), if_pos (by omega), h2]
  simp [Result.andThen, Addr.add]
  omega

theorem own_rd {w : World} {B : Nat} {e : TypeId} {n : Nat} {v : Value} {xs : List Value} (t : TypeId) (h : Try.prog.underlying t = some (.slice (Try.prog.elem t))) (h2 : ∀ v, (sizeOf (Try.prog.elem t)).run Try.prog v = .ok 1 v)
    (ho : w.ownsRow B e 1 v n xs) : ∃ a cap g, v = .slice a n cap ∧ RdC w t a n cap g xs ∧ (0 < n → B ≤ g) := by
  obtain ⟨h1, ⟨rfl, rfl⟩ | ⟨g, cap, cur, rfl, hB, hg, r1, r2, r3, r4⟩⟩ := ho
  · obtain rfl : xs = [] := by simpa using h1
    exact ⟨none, 0, 0, rfl, ⟨fun k hk => by omega, fun k u hu => by simp at hu, fun hk => by omega⟩, fun hk => by omega⟩
  · have ho : w.ownsRow B e 1 (.slice (some ⟨g, 0, none⟩) n cap) n xs := ⟨h1, .inr ⟨g, cap, cur, rfl, hB, hg, r1, r2, r3, r4⟩⟩
    refine ⟨_, cap, g, rfl, ⟨fun k hk v => idxOf t h h2 g n cap k hk v, fun k u hu => ?_, fun _ => (Array.getElem?_eq_some_iff.1 hg).1⟩, fun _ => hB⟩
    have hk : k < n := by
      have := (List.getElem?_eq_some_iff.1 hu).1
      omega
    rw [ho.cellAt k (by omega), hu]

theorem RdC.later {w w' : World} {t : TypeId} {a : Option Addr} {n cap g : Nat} {xs : List Value} (h : RdC w t a n cap g xs) (hl : xs.length ≤ n) (hb : 0 < n → w'.heap[g]? = w.heap[g]?) (hs : w.heap.size ≤ w'.heap.size) : RdC w' t a n cap g xs :=
  ⟨h.idx, fun k u hu => by
    have hk : k < xs.length := (List.getElem?_eq_some_iff.1 hu).1
    rw [World.cell?_of_block (w := w) (a := ⟨g, k, none⟩) (hb (by omega))]; exact h.cell k u hu, fun hn => Nat.lt_of_lt_of_le (h.old hn) hs⟩

theorem u44 : Try.prog.underlying 44 = some (.slice (Try.prog.elem 44)) := by kernel_rfl
theorem u45 : Try.prog.underlying 45 = some (.slice (Try.prog.elem 45)) := by kernel_rfl
theorem u46 : Try.prog.underlying 46 = some (.slice (Try.prog.elem 46)) := by kernel_rfl
theorem u42 : Try.prog.underlying 42 = some (.slice (Try.prog.elem 42)) := by kernel_rfl
theorem s44 (v : World) : (sizeOf (Try.prog.elem 44)).run Try.prog v = .ok 1 v := by kernel_rfl
theorem s45 (v : World) : (sizeOf (Try.prog.elem 45)).run Try.prog v = .ok 1 v := by kernel_rfl
theorem s46 (v : World) : (sizeOf (Try.prog.elem 46)).run Try.prog v = .ok 1 v := by kernel_rfl
theorem s42 (v : World) : (sizeOf (Try.prog.elem 42)).run Try.prog v = .ok 1 v := by kernel_rfl

/-- every id that came in has its client -/
theorem recs_has (f : Nat → St) : ∀ n j, j < n → ∃ e ∈ recs f n, e.id = (f j).id
  | n + 1, j, hj => by
    have hkeep : ∀ x, (∃ e ∈ recs f n, e.id = x) → ∃ e ∈ recs f (n + 1), e.id = x := by
      rintro x ⟨e, he, rfl⟩
      show ∃ e' ∈ rec1 (recs f n) (f n), e'.id = e.id
      unfold rec1
      split
      · exact ⟨e, he, rfl⟩
      · by_cases g : e.id = (f n).id
        · exact ⟨f n, by simp, g.symm⟩
        · exact ⟨e, by simp [he, g], rfl⟩
    by_cases e : j < n
    · exact hkeep _ (recs_has f n j e)
    · obtain rfl : j = n := by omega
      show ∃ e' ∈ rec1 (recs f j) (f j), e'.id = (f j).id
      unfold rec1
      split
      · rename_i hr
        unfold refused at hr
        rw [List.any_eq_true] at hr
        obtain ⟨e, he, hd⟩ := hr
        exact ⟨e, he, (of_decide_eq_true hd).1⟩
      · exact ⟨f j, by simp, rfl⟩

/-- where an element stands when c is gone -/
theorem gone_at {A Z : List Cl} {c : Cl} {i : Nat} (hi : i < (A ++ c :: Z).length) (hne : i ≠ A.length) :
    (A ++ Z)[if i < A.length then i else i - 1]? = (A ++ c :: Z)[i]? := by
  by_cases h : i < A.length
  · rw [if_pos h, List.getElem?_append_left h, List.getElem?_append_left h]
  · rw [if_neg h, List.getElem?_append_right (by omega), List.getElem?_append_right (by omega)]
    obtain ⟨q, rfl⟩ : ∃ q, i = A.length + 1 + q := ⟨i - A.length - 1, by omega⟩
    rw [show A.length + 1 + q - 1 - A.length = q by omega, show A.length + 1 + q - A.length = q + 1 by omega, List.getElem?_cons_succ]
end Go.Proofs.Qxb6600971a
