/-
  What 'view' builds: five slices in one struct; no walk.
-/
import Derived.Test.Qxb6600971aAll
import Derived.Deep.AppendLies
namespace Go.Proofs.Qxb6600971a
open Go.RowKit Go.Deep

def vty (j : Nat) : TypeId := if j = 0 then 9 else if j = 1 then 35 else if j = 2 then 35 else if j = 3 then 3 else 2
def vdat (j : Nat) (c : Cl) : Value := if j = 0 then .string c.id else if j = 1 then .int .u64 c.seq else if j = 2 then .int .u64 c.first else if j = 3 then .int .i64 c.ent else .int .i64 c.tm

/-- the first k clients; of the columns before j one more -/
def mix (L : List Cl) (k j i : Nat) : List Value := (L.take (if i < j then k + 1 else k)).map (vdat i)

/-- the struct in block V holds the slices v, which own the columns xs -/
structure VW (w : World) (B V : Nat) (v : Nat → Value) (xs : Nat → List Value) : Prop where
  row : w.rowIs V 48 5 v
  own : ∀ j, j < 5 → w.ownsRow B (vty j) 1 (v j) (xs j).length (xs j)
  apart : ∀ j, j < 5 → ∀ g, (v j).ownBlock = some g → g ≠ V ∧ ∀ i, i < 5 → i ≠ j → (v i).ownBlock ≠ some g

theorem own_of_block {w w' : World} {B : Nat} {e : TypeId} {s n : Nat} {v : Value} {xs : List Value} (h : w.ownsRow B e s v n xs) (hb : ∀ g, v.ownBlock = some g → w'.heap[g]? = w.heap[g]?) : w'.ownsRow B e s v n xs := by
  obtain ⟨h1, h2 | ⟨g, cap, cur, rfl, hB, hg, r⟩⟩ := h
  · exact ⟨h1, .inl h2⟩
  · exact ⟨h1, .inr ⟨g, cap, cur, rfl, hB, (hb g rfl).trans hg, r⟩⟩

theorem own_form {w : World} {B : Nat} {e : TypeId} {s n : Nat} {v : Value} {xs : List Value} (h : w.ownsRow B e s v n xs) : ∃ a cap, v = .slice a n cap := by
  obtain ⟨h1, ⟨rfl, rfl⟩ | ⟨g, cap, cur, rfl, hB, hg, r⟩⟩ := h
  · exact ⟨_, _, rfl⟩
  · exact ⟨_, _, rfl⟩

theorem VW.of_blocks {w w' : World} {B V : Nat} {v : Nat → Value} {xs : Nat → List Value} (h : VW w B V v xs) (hV : w'.heap[V]? = w.heap[V]?) (hb : ∀ j, j < 5 → ∀ g, (v j).ownBlock = some g → w'.heap[g]? = w.heap[g]?) : VW w' B V v xs :=
  ⟨h.row.of_block hV, fun j hj => own_of_block (h.own j hj) (hb j hj), h.apart⟩

theorem VW.keep {w w' : World} {B V : Nat} {v : Nat → Value} {xs : Nat → List Value} (h : VW w B V v xs) (hb : Below w.heap.size w w') : VW w' B V v xs :=
  h.of_blocks (hb.block V h.row.lt) (fun j hj g hg => hb.block g ((h.own j hj).lt g hg).2)

theorem VW.congr {w : World} {B V : Nat} {v : Nat → Value} {xs ys : Nat → List Value} (h : VW w B V v xs) (e : ∀ j, j < 5 → xs j = ys j) : VW w B V v ys :=
  ⟨h.row, fun j hj => by rw [← e j hj]; exact h.own j hj, h.apart⟩

theorem mix_next (L : List Cl) (k j : Nat) (hk : k < L.length) : mix L k j j ++ [vdat j L[k]] = mix L k (j + 1) j := by
  unfold mix
  rw [if_neg (by omega), if_pos (by omega), List.take_succ_eq_append_getElem hk, List.map_append]
  rfl
theorem mix_other (L : List Cl) (k j i : Nat) (hi : i ≠ j) : mix L k j i = mix L k (j + 1) i := by
  unfold mix
  by_cases h : i < j
  · rw [if_pos h, if_pos (by omega)]
  · rw [if_neg h, if_neg (by omega)]
theorem mix_round (L : List Cl) (k i : Nat) (hi : i < 5) : mix L k 5 i = mix L (k + 1) 0 i := by
  unfold mix
  rw [if_pos hi, if_neg (by omega)]
theorem mix_len (L : List Cl) (k j i : Nat) (hk : k < L.length) (hi : ¬ i < j) : (mix L k j i).length = k := by
  unfold mix
  rw [if_neg hi, List.length_map, List.length_take]
  omega

theorem VW.push {w w1 : World} {B V : Nat} {v : Nat → Value} {L : List Cl} {k j g cap H : Nat} (h : VW w B V v (mix L k j)) (hj : j < 5) (hk : k < L.length)
    (ho : w1.ownsRow B (vty j) 1 (.slice (some ⟨g, 0, none⟩) (k + 1) cap) (k + 1) (mix L k j j ++ [vdat j L[k]])) (hg : w.grownBy w1 (v j).ownBlock) (hat : (v j).ownBlock = some g ∨ g = H) (hH : w.heap.size = H) :
    VW (w1.setCell ⟨V, j, none⟩ (.slice (some ⟨g, 0, none⟩) (k + 1) cap)) B V (fun i => if i = j then .slice (some ⟨g, 0, none⟩) (k + 1) cap else v i) (mix L k (j + 1)) := by
  have hVlt := h.row.lt
  have hVj : some V ≠ (v j).ownBlock := fun e => (h.apart j hj V e.symm).1 rfl
  have hgV : g ≠ V := by
    rcases hat with e | e
    · exact (h.apart j hj g e).1
    · omega
  have hother : ∀ i, i < 5 → i ≠ j → ∀ q, (v i).ownBlock = some q → q ≠ g ∧ q ≠ V ∧ w1.heap[q]? = w.heap[q]? := by
    intro i hi hij q hq
    have hq2 := ((h.own i hi).lt q hq).2
    have ha := h.apart i hi q hq
    refine ⟨?_, ha.1, hg.block q hq2 (fun e => ha.2 j hj (Ne.symm hij) e.symm)⟩
    rcases hat with e | e
    · exact fun e2 => ha.2 j hj (Ne.symm hij) (by rw [e, e2])
    · omega
  refine ⟨?_, ?_, ?_⟩
  · refine ((h.row.of_block (hg.block V hVlt hVj)).set j _).congr fun i hi => rfl
  · intro i hi
    by_cases e : i = j
    · subst e
      simp only [if_true]
      rw [← mix_next L k i hk]
      have : (mix L k i i ++ [vdat i L[k]]).length = k + 1 := by simp [mix_len L k i i hk (by omega)]
      rw [this]
      exact own_of_block ho (fun q hq => blk_setCell_other _ _ _ _ (by cases hq; exact hgV))
    · simp only [if_neg e]
      rw [← mix_other L k j i e]
      refine own_of_block (own_of_block (h.own i hi) (fun q hq => (hother i hi e q hq).2.2)) (fun q hq => blk_setCell_other _ _ _ _ (hother i hi e q hq).2.1)
  · intro i hi q hq
    by_cases e : i = j
    · subst e
      simp only [if_true] at hq
      cases hq
      refine ⟨hgV, fun i' hi' hne => ?_⟩
      simp only [if_neg hne]
      exact fun e2 => (hother i' hi' hne g e2).1 rfl
    · simp only [if_neg e] at hq
      refine ⟨(hother i hi e q hq).2.1, fun i' hi' hne => ?_⟩
      by_cases e' : i' = j
      · simp only [if_pos e']
        intro e2
        exact (hother i hi e q hq).1 (by cases e2; rfl)
      · simp only [if_neg e']
        exact (h.apart i hi q hq).2 i' hi' hne

theorem Turn.grown {S : Nat → Prop} {a w w' : World} {row : Option Nat} (h : Turn S a w) (hg : w.grownBy w' row) (hr : ∀ k, row = some k → a.heap.size ≤ k) : Turn S a w' :=
  ⟨hg.os.trans h.os, hg.tape.trans h.tape, hg.output.trans h.output, Nat.le_trans h.size hg.size, fun k hk hn => (hg.block k (Nat.lt_of_lt_of_le hk h.size) (fun e => by have := hr k e.symm; omega)).trans (h.block k hk hn)⟩
end Go.Proofs.Qxb6600971a
