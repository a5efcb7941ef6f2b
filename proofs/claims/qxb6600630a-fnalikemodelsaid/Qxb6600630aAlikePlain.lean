/-
  What 'alike' keeps from round to round: plain functions, no Go in sight.
-/
namespace Go.Proofs.Qxb6600630a

/-- value i is known alike in both lists -/
def ag (tl tm : Nat → ByteArray) (kl km : Nat → Bool) (i : Nat) : Bool := kl i && km i && decide (tl i = tm i)
/-- l knows value i, and m does not know it alike -/
def bad (tl tm : Nat → ByteArray) (kl km : Nat → Bool) (i : Nat) : Bool := kl i && !(ag tl tm kl km i)
/-- has one been reset among the first k? -/
def rs (tl tm : Nat → ByteArray) (kl km : Nat → Bool) : Nat → Bool
  | 0 => false
  | k + 1 => rs tl tm kl km k || bad tl tm kl km k
/-- 'told' after k rounds -/
def toldTo (n : Nat) (tl tm : Nat → ByteArray) (kl km : Nat → Bool) : Nat → Int
  | 0 => n
  | k + 1 => if ag tl tm kl km k then toldTo n tl tm kl km k else (n : Int) - 1 - k
/-- the new list's texts and known marks after k rounds -/
def txr (tl tm : Nat → ByteArray) (kl km : Nat → Bool) (k i : Nat) : ByteArray := if i < k ∧ bad tl tm kl km i = true then ByteArray.empty else tl i
def knr (tl tm : Nat → ByteArray) (kl km : Nat → Bool) (k i : Nat) : Bool := if i < k ∧ bad tl tm kl km i = true then false else kl i

theorem txr_skip {tl tm : Nat → ByteArray} {kl km : Nat → Bool} {k : Nat} (h : bad tl tm kl km k = false) (i : Nat) : txr tl tm kl km (k + 1) i = txr tl tm kl km k i := by
  unfold txr
  by_cases e : i = k
  · subst e; simp [h]
  · have : i < k + 1 ↔ i < k := by omega
    simp only [this]
theorem knr_skip {tl tm : Nat → ByteArray} {kl km : Nat → Bool} {k : Nat} (h : bad tl tm kl km k = false) (i : Nat) : knr tl tm kl km (k + 1) i = knr tl tm kl km k i := by
  unfold knr
  by_cases e : i = k
  · subst e; simp [h]
  · have : i < k + 1 ↔ i < k := by omega
    simp only [this]
theorem txr_hit {tl tm : Nat → ByteArray} {kl km : Nat → Bool} {k : Nat} (h : bad tl tm kl km k = true) : txr tl tm kl km (k + 1) k = ByteArray.empty := by
  unfold txr; rw [if_pos ⟨by omega, h⟩]
theorem knr_hit {tl tm : Nat → ByteArray} {kl km : Nat → Bool} {k : Nat} (h : bad tl tm kl km k = true) : knr tl tm kl km (k + 1) k = false := by
  unfold knr; rw [if_pos ⟨by omega, h⟩]
theorem txr_other {tl tm : Nat → ByteArray} {kl km : Nat → Bool} {k i : Nat} (h : i ≠ k) : txr tl tm kl km (k + 1) i = txr tl tm kl km k i := by
  have : i < k + 1 ↔ i < k := by omega
  simp only [txr, this]
theorem knr_other {tl tm : Nat → ByteArray} {kl km : Nat → Bool} {k i : Nat} (h : i ≠ k) : knr tl tm kl km (k + 1) i = knr tl tm kl km k i := by
  have : i < k + 1 ↔ i < k := by omega
  simp only [knr, this]
theorem txr_none {tl tm : Nat → ByteArray} {kl km : Nat → Bool} : ∀ {k : Nat}, rs tl tm kl km k = false → ∀ i, txr tl tm kl km k i = tl i ∧ knr tl tm kl km k i = kl i
  | 0, _, i => by simp [txr, knr]
  | k + 1, h, i => by
    simp only [rs, Bool.or_eq_false_iff] at h
    rw [txr_skip h.2, knr_skip h.2]
    exact txr_none h.1 i
theorem knr_full (tl tm : Nat → ByteArray) (kl km : Nat → Bool) (k i : Nat) (h : i < k) : knr tl tm kl km k i = ag tl tm kl km i := by
  unfold knr bad
  cases h1 : ag tl tm kl km i <;> cases h2 : kl i <;> simp [h]
  · simp [ag, h2] at h1
theorem toldTo_bd (n : Nat) (tl tm : Nat → ByteArray) (kl km : Nat → Bool) : ∀ k, k ≤ n → 0 ≤ toldTo n tl tm kl km k ∧ toldTo n tl tm kl km k ≤ n
  | 0, _ => by simp [toldTo]
  | k + 1, h => by
    have := toldTo_bd n tl tm kl km k (by omega)
    simp only [toldTo]
    split <;> omega
/-- the answer agrees with m wherever it knows: nothing is reset a second time -/
theorem rs_again (tl tm : Nat → ByteArray) (kl km : Nat → Bool) (n : Nat) : ∀ k, k ≤ n → rs (txr tl tm kl km n) tm (knr tl tm kl km n) km k = false
  | 0, _ => rfl
  | k + 1, h => by
    simp only [rs, Bool.or_eq_false_iff]
    refine ⟨rs_again tl tm kl km n k (by omega), ?_⟩
    unfold bad
    cases h1 : knr tl tm kl km n k with
    | false => rfl
    | true =>
      have h2 := knr_full tl tm kl km n k (by omega)
      rw [h1] at h2
      have h3 : bad tl tm kl km k = false := by simp [bad, ← h2]
      have h4 : txr tl tm kl km n k = tl k := by unfold txr; rw [if_neg (by simp [h3])]
      have h5 := h2.symm
      simp only [ag, Bool.and_eq_true, decide_eq_true_eq] at h5
      have : ag (txr tl tm kl km n) tm (knr tl tm kl km n) km k = true := by
        simp only [ag, h1, h4, Bool.and_eq_true, decide_eq_true_eq]
        exact ⟨⟨trivial, h5.1.2⟩, h5.2⟩
      simp [this]
theorem rs_same (tl tm : Nat → ByteArray) (kl km : Nat → Bool) (n : Nat) (h1 : ∀ i, i < n → tl i = tm i) (h2 : ∀ i, i < n → kl i = km i) : ∀ k, k ≤ n → rs tl tm kl km k = false
  | 0, _ => rfl
  | k + 1, h => by
    simp only [rs, Bool.or_eq_false_iff]
    refine ⟨rs_same tl tm kl km n h1 h2 k (by omega), ?_⟩
    simp only [bad, ag, h1 k (by omega), h2 k (by omega), decide_true, Bool.and_true, Bool.and_self]
    cases km k <;> rfl
theorem rs_congr (tl tm : Nat → ByteArray) (kl km : Nat → Bool) : ∀ k, rs tl tm kl km k = true ↔ ∃ i, i < k ∧ bad tl tm kl km i = true
  | 0 => by simp [rs]
  | k + 1 => by
    simp only [rs, Bool.or_eq_true, rs_congr tl tm kl km k]
    constructor
    · rintro (⟨i, h1, h2⟩ | h)
      · exact ⟨i, by omega, h2⟩
      · exact ⟨k, by omega, h⟩
    · rintro ⟨i, h1, h2⟩
      by_cases e : i = k
      · subst e; exact .inr h2
      · exact .inl ⟨i, by omega, h2⟩
end Go.Proofs.Qxb6600630a
