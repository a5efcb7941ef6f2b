/-
  The plain model of the law of 'record': which steps are accepted; which are left.
-/
import Derived.Test.Qxb6600971aAll
namespace Go.Proofs.Qxb6600971a
open Go.RowKit Go.Deep

/-- step i is its client's first, or above all earlier ones -/
def acc (f : Nat → St) (i : Nat) : Bool := (List.range i).all fun j => decide ((f j).id = (f i).id → (f j).seq < (f i).seq)
/-- is a step of the same client accepted after i? -/
def later (f : Nat → St) (n i : Nat) : Bool := (List.range n).any fun j => decide (i < j ∧ acc f j = true ∧ (f j).id = (f i).id)
/-- the steps that are left, in order -/
def wantL (f : Nat → St) (n : Nat) : List Nat := (List.range n).filter fun i => acc f i && !later f n i

theorem acc_iff (f : Nat → St) (i : Nat) : acc f i = true ↔ ∀ j, j < i → (f j).id = (f i).id → (f j).seq < (f i).seq := by
  unfold acc
  rw [List.all_eq_true]
  constructor
  · intro h j hj
    exact of_decide_eq_true (h j (List.mem_range.2 hj))
  · intro h j hj
    exact decide_eq_true (h j (List.mem_range.1 hj))
theorem later_iff (f : Nat → St) (n i : Nat) : later f n i = true ↔ ∃ j, j < n ∧ i < j ∧ acc f j = true ∧ (f j).id = (f i).id := by
  unfold later
  rw [List.any_eq_true]
  constructor
  · rintro ⟨j, hj, h⟩
    exact ⟨j, List.mem_range.1 hj, of_decide_eq_true h⟩
  · rintro ⟨j, hj, h⟩
    exact ⟨j, List.mem_range.2 hj, decide_eq_true h⟩

theorem recs_from (f : Nat → St) : ∀ n e, e ∈ recs f n → ∃ j, j < n ∧ e = f j
  | 0, e, he => by cases he
  | n + 1, e, he => by
    change e ∈ rec1 (recs f n) (f n) at he
    unfold rec1 at he
    have old : e ∈ recs f n → ∃ j, j < n + 1 ∧ e = f j := fun h => by
      obtain ⟨j, hj, rfl⟩ := recs_from f n e h
      exact ⟨j, by omega, rfl⟩
    split at he
    · exact old he
    · rcases List.mem_append.1 he with h | h
      · exact old (List.mem_filter.1 h).1
      · exact ⟨n, by omega, List.mem_singleton.1 h⟩

theorem refused_iff (D : List St) (s : St) : refused D s = true ↔ ∃ e ∈ D, e.id = s.id ∧ s.seq ≤ e.seq := by
  unfold refused
  rw [List.any_eq_true]
  constructor
  · rintro ⟨e, he, h⟩
    exact ⟨e, he, of_decide_eq_true h⟩
  · rintro ⟨e, he, h⟩
    exact ⟨e, he, decide_eq_true h⟩

theorem recs_top (f : Nat → St) : ∀ n j, j < n → ∃ e ∈ recs f n, e.id = (f j).id ∧ (f j).seq ≤ e.seq
  | n + 1, j, hj => by
    show ∃ e ∈ rec1 (recs f n) (f n), _
    by_cases hr : refused (recs f n) (f n) = true
    · rw [rec1, if_pos hr]
      by_cases e : j < n
      · exact recs_top f n j e
      · obtain rfl : j = n := by omega
        exact (refused_iff _ _).1 hr
    · rw [rec1, if_neg hr]
      by_cases e : j < n
      · obtain ⟨x, hx, h1, h2⟩ := recs_top f n j e
        by_cases g : x.id = (f n).id
        · refine ⟨f n, by simp, by rw [← g, h1], ?_⟩
          have : ¬ (f n).seq ≤ x.seq := fun q => hr ((refused_iff _ _).2 ⟨x, hx, g, q⟩)
          omega
        · exact ⟨x, by simp [hx, g], h1, h2⟩
      · obtain rfl : j = n := by omega
        exact ⟨f j, by simp, rfl, Int.le_refl _⟩

/-- what 'record' answers is what the model says -/
theorem acc_refused (f : Nat → St) (n : Nat) : acc f n = !refused (recs f n) (f n) := by
  by_cases h : acc f n = true
  · rw [h]
    have h2 : ¬ refused (recs f n) (f n) = true := fun hr => by
      obtain ⟨e, he, h1, h2⟩ := (refused_iff _ _).1 hr
      obtain ⟨j, hj, rfl⟩ := recs_from f n e he
      have := (acc_iff f n).1 h j hj h1
      omega
    simp [h2]
  · have hr : refused (recs f n) (f n) = true := by
      have hn : ¬ ∀ j, j < n → (f j).id = (f n).id → (f j).seq < (f n).seq := fun q => h ((acc_iff f n).2 q)
      have : ∃ j, j < n ∧ (f j).id = (f n).id ∧ ¬ (f j).seq < (f n).seq := by
        apply Classical.byContradiction
        intro q
        apply hn
        intro j hj e
        apply Classical.byContradiction
        intro g
        exact q ⟨j, hj, e, g⟩
      obtain ⟨j, hj, e, g⟩ := this
      obtain ⟨x, hx, h1, h2⟩ := recs_top f n j hj
      exact (refused_iff _ _).2 ⟨x, hx, h1.trans e, by omega⟩
    rw [hr]
    simpa using h

theorem later_succ (f : Nat → St) (n i : Nat) (hi : i < n) : later f (n + 1) i = (later f n i || (acc f n && decide ((f n).id = (f i).id))) := by
  unfold later
  rw [List.range_succ, List.any_append]
  congr 1
  simp [hi]

theorem later_self (f : Nat → St) (n : Nat) : later f (n + 1) n = false := by
  rw [← Bool.not_eq_true]
  intro h
  obtain ⟨j, h1, h2, _⟩ := (later_iff _ _ _).1 h
  omega

/-- the log's list is what the model leaves -/
theorem recs_want (f : Nat → St) : ∀ n, recs f n = (wantL f n).map f
  | 0 => rfl
  | n + 1 => by
    show rec1 (recs f n) (f n) = _
    unfold wantL
    rw [List.range_succ, List.filter_append]
    have hlast : [n].filter (fun i => acc f i && !later f (n + 1) i) = if acc f n then [n] else [] := by
      simp only [List.filter_cons, later_self, Bool.not_false, Bool.and_true, List.filter_nil]
    have hr := acc_refused f n
    by_cases h : acc f n = true
    · rw [hlast, if_pos h]
      have hr' : ¬ refused (recs f n) (f n) = true := by
        intro q
        rw [h, q] at hr
        cases hr
      rw [rec1, if_neg hr', recs_want f n, List.map_append, List.filter_map]
      congr 1
      congr 1
      unfold wantL
      rw [List.filter_filter]
      apply List.filter_congr
      intro i hi
      rw [later_succ f n i (List.mem_range.1 hi), h]
      by_cases g : (f i).id = (f n).id
      · simp [g]
      · have g' : ¬ (f n).id = (f i).id := fun q => g q.symm
        simp [g, g']
    · rw [hlast, if_neg h]
      have h0 : acc f n = false := by simpa using h
      have hr' : refused (recs f n) (f n) = true := by
        rw [h0] at hr
        simpa using hr.symm
      rw [rec1, if_pos hr', recs_want f n, List.append_nil]
      congr 1
      unfold wantL
      apply List.filter_congr
      intro i hi
      rw [later_succ f n i (List.mem_range.1 hi), h0]
      simp
end Go.Proofs.Qxb6600971a
