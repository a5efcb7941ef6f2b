/-
  'view' as the laws use it.
-/
import Derived.Test.Qxb6600971aView
import Derived.Test.Qxb6600971aCols
namespace Go.Proofs.Qxb6600971a
open Go.RowKit Go.Deep

def cty (j : Nat) : TypeId := if j = 0 then 44 else if j = 1 then 45 else if j = 2 then 45 else if j = 3 then 42 else 46

/-- the five columns that show L -/
structure Cols (w : World) (L : List Cl) (B : Nat) (a : Nat → Option Addr) (c g : Nat → Nat) : Prop where
  col : ∀ j, j < 5 → RdC w (cty j) (a j) L.length (c j) (g j) (L.map (vdat j))
  low : 0 < L.length → ∀ j, j < 5 → B ≤ g j

theorem Cols.later {w w' : World} {L : List Cl} {B : Nat} {a : Nat → Option Addr} {c g : Nat → Nat} (h : Cols w L B a c g) (hb : ∀ k, B ≤ k → k < w.heap.size → w'.heap[k]? = w.heap[k]?) (hs : w.heap.size ≤ w'.heap.size) : Cols w' L B a c g :=
  ⟨fun j hj => (h.col j hj).later (by simp) (fun hn => hb _ (h.low hn j hj) ((h.col j hj).old hn)) hs, h.low⟩

theorem cols_of {w : World} {L : List Cl} {B : Nat} {v : Nat → Value} (h : ∀ j, j < 5 → w.ownsRow B (vty j) 1 (v j) L.length (L.map (vdat j))) : ∃ a c g, (∀ j, j < 5 → v j = .slice (a j) L.length (c j)) ∧ Cols w L B a c g := by
  have key : ∀ j, j < 5 → ∃ a c g, v j = .slice a L.length c ∧ RdC w (cty j) a L.length c g (L.map (vdat j)) ∧ (0 < L.length → B ≤ g) := by
    intro j hj
    have hj' : j = 0 ∨ j = 1 ∨ j = 2 ∨ j = 3 ∨ j = 4 := by omega
    rcases hj' with rfl | rfl | rfl | rfl | rfl
    · exact own_rd 44 u44 s44 (h 0 hj)
    · exact own_rd 45 u45 s45 (h 1 hj)
    · exact own_rd 45 u45 s45 (h 2 hj)
    · exact own_rd 42 u42 s42 (h 3 hj)
    · exact own_rd 46 u46 s46 (h 4 hj)
  refine ⟨fun j => if hj : j < 5 then (key j hj).choose else none, fun j => if hj : j < 5 then (key j hj).choose_spec.choose else 0, fun j => if hj : j < 5 then (key j hj).choose_spec.choose_spec.choose else 0, ?_, ⟨?_, ?_⟩⟩
  · intro j hj
    simp only [dif_pos hj]
    exact (key j hj).choose_spec.choose_spec.choose_spec.1
  · intro j hj
    simp only [dif_pos hj]
    exact (key j hj).choose_spec.choose_spec.choose_spec.2.1
  · intro hn j hj
    simp only [dif_pos hj]
    exact (key j hj).choose_spec.choose_spec.choose_spec.2.2 hn

theorem seen_calls (w : World) (r : Nat) (mo : Option Nat) (L : List Cl) (M : ByteArray → Option Nat) (cnt : Nat) (now peak : Int) (mx : Int)
    (h : LS w r mo L now peak) (hm : MapIs w mo M cnt) (hM : ∀ c ∈ L, M c.id = some c.blk ∧ c.id.size ≤ maxLen) (hmx : (L.length : Int) < mx) (hmx2 : mx ≤ 100000) :
    Calls Try.prog 14 #[ptr r, .int .i64 mx] w fun e w' => ∃ a c g, e = .returned (.tuple #[.agg #[.slice (a 0) L.length (c 0), .slice (a 1) L.length (c 1), .slice (a 2) L.length (c 2), .slice (a 3) L.length (c 3), .slice (a 4) L.length (c 4)], .bool true]) ∧
      Cols w' L (w.heap.size + 2) a c g ∧ Below w.heap.size w w' := by
  refine (view_calls w r mo L M cnt now peak mx h hm hM hmx hmx2).mono ?_
  rintro e w' ⟨v, rfl, hv, hb⟩
  obtain ⟨a, c, g, e, hc⟩ := cols_of hv
  exact ⟨a, c, g, by rw [e 0 (by omega), e 1 (by omega), e 2 (by omega), e 3 (by omega), e 4 (by omega)], hc, hb⟩

theorem Cols.at {w : World} {L : List Cl} {B : Nat} {a : Nat → Option Addr} {c g : Nat → Nat} (h : Cols w L B a c g) {i : Nat} (hi : i < L.length) (j : Nat) (hj : j < 5) : w.cell? ⟨g j, i, none⟩ = some (vdat j L[i]) :=
  (h.col j hj).cell i _ (by simp [hi])
end Go.Proofs.Qxb6600971a
