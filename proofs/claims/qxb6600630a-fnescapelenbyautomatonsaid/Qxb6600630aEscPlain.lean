/-
  THE PLAIN LAW of 'escapeLen': no Go in sight. A string is a function 'b : Nat → Nat' of its bytes (256 beyond its length 'n').
-/
namespace Go.Proofs.Qxb6600630a.Esc

def Bytes (b : Nat → Nat) (n : Nat) : Prop := (∀ k, k < n → b k < 256) ∧ (∀ k, n ≤ k → b k = 256)

def par (c : Nat) : Prop := 48 ≤ c ∧ c ≤ 63
def int (c : Nat) : Prop := 32 ≤ c ∧ c ≤ 47

/-- from p on: intermediate bytes up to m, then at most one final byte (lo to 126) -/
def Tail (b : Nat → Nat) (p m : Nat) : Prop := p ≤ m ∧ (∀ k, p ≤ k → k < m → int (b k)) ∧ ¬ int (b m)
def last (b : Nat → Nat) (lo m : Nat) : Nat := if lo ≤ b m ∧ b m ≤ 126 then m + 1 else m

def Inter (b : Nat → Nat) (lo p r : Nat) : Prop := ∃ m, Tail b p m ∧ r = last b lo m

def Csi (b : Nat → Nat) (r : Nat) : Prop := ∃ p, 2 ≤ p ∧ (∀ k, 2 ≤ k → k < p → par (b k)) ∧ ¬ par (b p) ∧ Inter b 64 p r

def Ctl (b : Nat → Nat) (n r : Nat) : Prop := ∃ t, 2 ≤ t ∧ t ≤ n ∧ (∀ k, 2 ≤ k → k < t → b k ≠ 7 ∧ b k ≠ 27) ∧
  ((t = n ∧ r = n) ∨ (t < n ∧ b t = 7 ∧ r = t + 1) ∨ (t < n ∧ b t = 27 ∧ b (t + 1) = 92 ∧ r = t + 2) ∨ (t < n ∧ b t = 27 ∧ b (t + 1) ≠ 92 ∧ r = t))

def ctl (c : Nat) : Prop := c = 93 ∨ c = 80 ∨ c = 88 ∨ c = 94 ∨ c = 95

def IsEsc (b : Nat → Nat) (n r : Nat) : Prop :=
  (n < 2 ∧ r = n) ∨ (2 ≤ n ∧ b 1 = 91 ∧ Csi b r) ∨ (2 ≤ n ∧ ctl (b 1) ∧ Ctl b n r) ∨ (2 ≤ n ∧ b 1 ≠ 91 ∧ ¬ ctl (b 1) ∧ Inter b 48 1 r)

theorem inter_unique {b : Nat → Nat} {lo p r r' : Nat} (h : Inter b lo p r) (h' : Inter b lo p r') : r = r' := by
  obtain ⟨m, ⟨h1, h2, h3⟩, rfl⟩ := h
  obtain ⟨m', ⟨g1, g2, g3⟩, rfl⟩ := h'
  rcases Nat.lt_trichotomy m m' with hl | hl | hl
  · exact absurd (g2 m h1 hl) h3
  · subst hl; rfl
  · exact absurd (h2 m' g1 hl) g3

theorem csi_unique {b : Nat → Nat} {r r' : Nat} (h : Csi b r) (h' : Csi b r') : r = r' := by
  obtain ⟨p, h1, h2, h3, h4⟩ := h
  obtain ⟨p', g1, g2, g3, g4⟩ := h'
  rcases Nat.lt_trichotomy p p' with hl | hl | hl
  · exact absurd (g2 p h1 hl) h3
  · subst hl; exact inter_unique h4 g4
  · exact absurd (h2 p' g1 hl) g3

theorem ctl_unique {b : Nat → Nat} {n r r' : Nat} (h : Ctl b n r) (h' : Ctl b n r') : r = r' := by
  obtain ⟨t, h1, h2, h3, h4⟩ := h
  obtain ⟨t', g1, g2, g3, g4⟩ := h'
  rcases Nat.lt_trichotomy t t' with hl | hl | hl
  · have := g3 t h1 hl; omega
  · subst hl; omega
  · have := h3 t' g1 hl; omega

theorem isEsc_unique {b : Nat → Nat} {n r r' : Nat} (h : IsEsc b n r) (h' : IsEsc b n r') : r = r' := by
  rcases h with ⟨a1, a2⟩ | ⟨a1, a2, a3⟩ | ⟨a1, a2, a3⟩ | ⟨a1, a2, a3, a4⟩ <;>
    rcases h' with ⟨b1, b2⟩ | ⟨b1, b2, b3⟩ | ⟨b1, b2, b3⟩ | ⟨b1, b2, b3, b4⟩ <;> try omega
  · exact csi_unique a3 b3
  · unfold ctl at b2; omega
  · unfold ctl at a2; omega
  · exact ctl_unique a3 b3
  · exact absurd a2 b3
  · exact absurd b2 a3
  · exact inter_unique a4 b4

/-! ### the automaton's states: 0 parameters, 1 intermediates, 2 done, 3 stop -/
def autoStep (csi : Bool) (st c : Nat) : Nat :=
  if st = 2 ∨ st = 3 then 3
  else if 32 ≤ c ∧ c ≤ 47 then 1
  else if csi then (if st = 0 ∧ 48 ≤ c ∧ c ≤ 63 then 0 else if 64 ≤ c ∧ c ≤ 126 then 2 else 3)
  else if 48 ≤ c ∧ c ≤ 126 then 2 else 3

/-- what the automaton's loop keeps at j, its state st not 3 -/
def Auto (b : Nat → Nat) (csi : Bool) (lo start st j : Nat) : Prop :=
  start ≤ j ∧
  ((csi = true ∧ st = 0 ∧ (∀ k, 2 ≤ k → k < j → par (b k))) ∨
   (st = 1 ∧ ∃ p, start ≤ p ∧ p ≤ j ∧ (csi = true → (∀ k, 2 ≤ k → k < p → par (b k)) ∧ ¬ par (b p) ∧ p < j) ∧ (csi = false → p = start) ∧ (∀ k, p ≤ k → k < j → int (b k))) ∨
   (st = 2 ∧ ∃ p m, j = m + 1 ∧ start ≤ p ∧ (csi = true → (∀ k, 2 ≤ k → k < p → par (b k)) ∧ ¬ par (b p)) ∧ (csi = false → p = start) ∧ Tail b p m ∧ lo ≤ b m ∧ b m ≤ 126))

def Goal (b : Nat → Nat) (csi : Bool) (lo start r : Nat) : Prop :=
  ∃ p, start ≤ p ∧ (csi = true → (∀ k, 2 ≤ k → k < p → par (b k)) ∧ ¬ par (b p)) ∧ (csi = false → p = start) ∧ Inter b lo p r

theorem auto_out {b : Nat → Nat} {csi : Bool} {lo start st j : Nat} (hlo : (csi = true → lo = 64 ∧ start = 2) ∧ (csi = false → lo = 48)) (h : Auto b csi lo start st j)
    (hs : autoStep csi st (b j) = 3 ∨ 256 ≤ b j) : Goal b csi lo start j := by
  obtain ⟨h0, h | h | h⟩ := h
  · obtain ⟨rfl, rfl, h1⟩ := h
    obtain ⟨rfl, rfl⟩ := hlo.1 rfl
    have hnp : ¬ par (b j) := by
      intro hp; unfold par at hp; unfold autoStep at hs
      repeat' split at hs
      all_goals first | omega | (simp at hs; omega)
    have hni : ¬ int (b j) := by
      intro hp; unfold int at hp; unfold autoStep at hs
      repeat' split at hs
      all_goals first | omega | (simp at hs; omega)
    have hnf : ¬ (64 ≤ b j ∧ b j ≤ 126) := by
      intro hp; unfold autoStep at hs
      repeat' split at hs
      all_goals first | omega | (simp at hs; omega)
    exact ⟨j, h0, fun _ => ⟨h1, hnp⟩, (by intro h; cases h), j, ⟨Nat.le_refl _, fun k h1 h2 => by omega, hni⟩, by simp [last, hnf]⟩
  · obtain ⟨rfl, p, p1, p2, p3, p4, p5⟩ := h
    have hni : ¬ int (b j) := by
      intro hp; unfold int at hp; unfold autoStep at hs
      repeat' split at hs
      all_goals first | omega | (simp at hs; omega)
    have hnf : ¬ (lo ≤ b j ∧ b j ≤ 126) := by
      cases csi
      · have := hlo.2 rfl
        subst this
        intro hp; unfold autoStep at hs
        repeat' split at hs
        all_goals first | omega | (exfalso; simp_all; done) | (simp at hs; omega)
      · have := (hlo.1 rfl).1
        subst this
        intro hp; unfold autoStep at hs
        repeat' split at hs
        all_goals first | omega | (exfalso; simp_all; done) | (simp at hs; omega)
    exact ⟨p, p1, fun h => ⟨(p3 h).1, (p3 h).2.1⟩, p4, j, ⟨p2, p5, hni⟩, by simp [last, hnf]⟩
  · obtain ⟨rfl, p, m, rfl, p1, p3, p4, p5, p6, p7⟩ := h
    exact ⟨p, p1, p3, p4, m, p5, by simp [last, p6, p7]⟩

theorem auto_next {b : Nat → Nat} {csi : Bool} {lo start st j : Nat} (hlo : (csi = true → lo = 64 ∧ start = 2) ∧ (csi = false → lo = 48)) (h : Auto b csi lo start st j)
    (hs : autoStep csi st (b j) ≠ 3) : Auto b csi lo start (autoStep csi st (b j)) (j + 1) := by
  obtain ⟨h0, h | h | h⟩ := h
  · obtain ⟨rfl, rfl, h1⟩ := h
    obtain ⟨rfl, rfl⟩ := hlo.1 rfl
    by_cases c1 : 32 ≤ b j ∧ b j ≤ 47
    · have e : autoStep true 0 (b j) = 1 := by simp [autoStep, c1]
      rw [e]
      refine ⟨by omega, .inr (.inl ⟨rfl, j, h0, by omega, fun _ => ⟨h1, by unfold par; omega, by omega⟩, (by intro h; cases h), ?_⟩)⟩
      intro k k1 k2
      have : k = j := by omega
      subst this; exact c1
    · by_cases c2 : 48 ≤ b j ∧ b j ≤ 63
      · have e : autoStep true 0 (b j) = 0 := by simp [autoStep, c1, c2]
        rw [e]
        refine ⟨by omega, .inl ⟨rfl, rfl, ?_⟩⟩
        intro k k1 k2
        rcases Nat.lt_or_ge k j with g | g
        · exact h1 k k1 g
        · have : k = j := by omega
          subst this; exact c2
      · by_cases c3 : 64 ≤ b j ∧ b j ≤ 126
        · have e : autoStep true 0 (b j) = 2 := by simp [autoStep, c1, c2, c3]
          rw [e]
          exact ⟨by omega, .inr (.inr ⟨rfl, j, j, rfl, h0, fun _ => ⟨h1, c2⟩, (by intro h; cases h), ⟨Nat.le_refl _, fun k _ _ => by omega, c1⟩, c3.1, c3.2⟩)⟩
        · exact absurd (by simp [autoStep, c1, c2, c3]) hs
  · obtain ⟨rfl, p, p1, p2, p3, p4, p5⟩ := h
    by_cases c1 : 32 ≤ b j ∧ b j ≤ 47
    · have e : autoStep csi 1 (b j) = 1 := by simp [autoStep, c1]
      rw [e]
      refine ⟨by omega, .inr (.inl ⟨rfl, p, p1, by omega, fun h => ⟨(p3 h).1, (p3 h).2.1, by omega⟩, p4, ?_⟩)⟩
      intro k k1 k2
      rcases Nat.lt_or_ge k j with g | g
      · exact p5 k k1 g
      · have : k = j := by omega
        subst this; exact c1
    · have fin : lo ≤ b j ∧ b j ≤ 126 → Auto b csi lo start 2 (j + 1) := fun c3 =>
        ⟨by omega, .inr (.inr ⟨rfl, p, j, rfl, p1, fun h => ⟨(p3 h).1, (p3 h).2.1⟩, p4, ⟨p2, p5, c1⟩, c3.1, c3.2⟩)⟩
      cases csi
      · have := hlo.2 rfl
        subst this
        by_cases c3 : 48 ≤ b j ∧ b j ≤ 126
        · have e : autoStep false 1 (b j) = 2 := by simp [autoStep, c1, c3]
          rw [e]; exact fin c3
        · exact absurd (by simp [autoStep, c1, c3]) hs
      · have := (hlo.1 rfl).1
        subst this
        by_cases c3 : 64 ≤ b j ∧ b j ≤ 126
        · have e : autoStep true 1 (b j) = 2 := by simp [autoStep, c1, c3]
          rw [e]; exact fin c3
        · exact absurd (by simp [autoStep, c1, c3]) hs
  · obtain ⟨rfl, _⟩ := h
    exact absurd (by simp [autoStep]) hs

theorem auto_start_csi (b : Nat → Nat) : Auto b true 64 2 0 2 := ⟨Nat.le_refl _, .inl ⟨rfl, rfl, fun k _ _ => by omega⟩⟩
theorem auto_start_esc (b : Nat → Nat) : Auto b false 48 1 1 1 := ⟨Nat.le_refl _, .inr (.inl ⟨rfl, 1, by omega, by omega, (by intro h; cases h), fun _ => rfl, fun k _ _ => by omega⟩)⟩

theorem goal_csi {b : Nat → Nat} {r : Nat} (h : Goal b true 64 2 r) : Csi b r := by
  obtain ⟨p, h1, h2, _, h4⟩ := h
  exact ⟨p, h1, (h2 rfl).1, (h2 rfl).2, h4⟩
theorem goal_esc {b : Nat → Nat} {r : Nat} (h : Goal b false 48 1 r) : Inter b 48 1 r := by
  obtain ⟨p, h1, _, h3, h4⟩ := h
  obtain rfl := h3 rfl
  exact h4

end Go.Proofs.Qxb6600630a.Esc
