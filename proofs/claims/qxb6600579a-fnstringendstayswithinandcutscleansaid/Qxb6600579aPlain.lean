/-
  THE PLAIN LAW of 'stringEnd': no Go in sight. A string is a function 'b : Nat → Nat' of its bytes (256 beyond its length 'n').
-/
namespace Go.Proofs.Qxb6600579a.Plain

/-- the backslashes (92) just before j, read backwards and not below st -/
def bs (b : Nat → Nat) (st : Nat) : Nat → Nat
  | 0 => 0
  | j + 1 => if st ≤ j ∧ b j = 92 then bs b st j + 1 else 0

def Run (b : Nat → Nat) (j q w : Nat) : Prop := ∀ t, t < w → b (j + t) = q

def Clos (b : Nat → Nat) (st q w j : Nat) : Prop := Run b j q w ∧ ¬ (q = 34 ∧ bs b st j % 2 = 1)

def width (b : Nat → Nat) (i : Nat) : Nat := if b (i + 1) = b i ∧ b (i + 2) = b i then 3 else 1

def ext (b : Nat → Nat) (j q : Nat) : Nat := if b j = q then (if b (j + 1) = q then 2 else 1) else 0

def fin (b : Nat → Nat) (w q j : Nat) : Nat := if w = 1 then j + 1 else j + 3 + ext b (j + 3) q

def EndAt (b : Nat → Nat) (n q w st e : Nat) : Prop :=
  (∃ j, st ≤ j ∧ Clos b st q w j ∧ (∀ k, st ≤ k → k < j → ¬ Clos b st q w k) ∧ e = fin b w q j) ∨
  ((∀ k, st ≤ k → ¬ Clos b st q w k) ∧ e = n)

def IsEnd (b : Nat → Nat) (n i e : Nat) : Prop := EndAt b n (b i) (width b i) (i + width b i) e

theorem endAt_unique {b : Nat → Nat} {n q w st e e' : Nat} (h : EndAt b n q w st e) (h' : EndAt b n q w st e') : e = e' := by
  rcases h with ⟨j, h1, h2, h3, h4⟩ | ⟨h1, h2⟩ <;> rcases h' with ⟨j', g1, g2, g3, g4⟩ | ⟨g1, g2⟩
  · have : j = j' := by
      rcases Nat.lt_trichotomy j j' with hl | hl | hl
      · exact absurd h2 (g3 j h1 hl)
      · exact hl
      · exact absurd g2 (h3 j' g1 hl)
    subst this; omega
  · exact absurd h2 (g1 j h1)
  · exact absurd g2 (h1 j' g1)
  · omega

theorem isEnd_unique {b : Nat → Nat} {n i e e' : Nat} (h : IsEnd b n i e) (h' : IsEnd b n i e') : e = e' := endAt_unique h h'

theorem width_cases (b : Nat → Nat) (i : Nat) : (width b i = 1 ∧ ¬ (b (i + 1) = b i ∧ b (i + 2) = b i)) ∨ (width b i = 3 ∧ b (i + 1) = b i ∧ b (i + 2) = b i) := by
  unfold width; split
  · rename_i h; exact .inr ⟨rfl, h⟩
  · rename_i h; exact .inl ⟨rfl, h⟩

theorem ext_le (b : Nat → Nat) (j q : Nat) : ext b j q ≤ 2 := by unfold ext; split <;> (try split) <;> omega

/-- a byte function over n bytes -/
def Bytes (b : Nat → Nat) (n : Nat) : Prop := (∀ k, k < n → b k < 256) ∧ (∀ k, n ≤ k → b k = 256)

theorem fin_le {b : Nat → Nat} {n q w j : Nat} (hb : Bytes b n) (hq : q < 256) (hw : w = 1 ∨ w = 3) (hr : Run b j q w) : j + w ≤ fin b w q j ∧ fin b w q j ≤ n := by
  have lt : ∀ k, b k = q → k < n := by
    intro k hk
    rcases Nat.lt_or_ge k n with h | h
    · exact h
    · have := hb.2 k h; omega
  rcases hw with rfl | rfl
  · have := lt (j + 0) (hr 0 (by omega))
    unfold fin; simp; omega
  · have h2 := lt (j + 2) (hr 2 (by omega))
    unfold fin ext; simp only [show (3 : Nat) ≠ 1 by omega, if_false]
    split
    · rename_i h3
      have h3 := lt _ h3
      split
      · rename_i h4
        have h4 := lt _ h4
        omega
      · omega
    · omega

theorem isEnd_within {b : Nat → Nat} {n i e : Nat} (hb : Bytes b n) (hi : i < n) (h : IsEnd b n i e) : i < e ∧ e ≤ n := by
  have hq := hb.1 i hi
  rcases h with ⟨j, h1, h2, h3, h4⟩ | ⟨h1, h2⟩
  · have hw := width_cases b i
    have := fin_le hb hq (by omega) h2.1
    omega
  · omega

/-- the backslashes before j are the same where the bytes are, up to a shift -/
theorem bs_shift {b c : Nat → Nat} {P st : Nat} : ∀ j, (∀ k, st ≤ k → k < j → c (P + k) = b k) → bs c (P + st) (P + j) = bs b st j
  | 0, _ => by
    cases P with
    | zero => rfl
    | succ P => simp only [bs]; rw [if_neg (by omega)]
  | j + 1, h => by
    have ih := bs_shift (b := b) (c := c) (P := P) (st := st) j (fun k h1 h2 => h k h1 (by omega))
    show bs c (P + st) ((P + j) + 1) = bs b st (j + 1)
    simp only [bs]
    by_cases hs : st ≤ j
    · rw [ih, h j hs (by omega)]
      simp [hs]
    · rw [if_neg (by omega), if_neg (by omega)]

theorem run_shift {b c : Nat → Nat} {P j q w : Nat} (h : ∀ k, j ≤ k → k < j + w → c (P + k) = b k) : Run c (P + j) q w ↔ Run b j q w := by
  unfold Run
  constructor
  · intro g t ht
    have := g t ht
    rw [Nat.add_assoc, h (j + t) (by omega) (by omega)] at this
    exact this
  · intro g t ht
    rw [Nat.add_assoc, h (j + t) (by omega) (by omega)]
    exact g t ht

theorem clos_shift {b c : Nat → Nat} {P st q w j : Nat} (h : ∀ k, st ≤ k → k < j + w → c (P + k) = b k) (hj : st ≤ j) : Clos c (P + st) q w (P + j) ↔ Clos b st q w j := by
  unfold Clos
  rw [run_shift (fun k h1 h2 => h k (by omega) h2), bs_shift j (fun k h1 h2 => h k h1 (by omega))]

/-- CUTTING BEHIND THE STRING LEAVES THE ANSWER. -/
theorem cut {b c : Nat → Nat} {n i e : Nat} (hb : Bytes b n) (hi : i < n) (h : IsEnd b n i e) (hc : ∀ k, k < e → c k = b k) (hc' : ∀ k, e ≤ k → c k = 256) : IsEnd c e i e := by
  have hq := hb.1 i hi
  obtain ⟨hie, hen⟩ := isEnd_within hb hi h
  have hci := hc i hie
  -- a closing place of the cut text is one of the whole text
  have back : ∀ st w k, st ≤ k → (w = 1 ∨ w = 3) → Clos c st (b i) w k → Clos b st (b i) w k ∧ k + w ≤ e := by
    intro st w k hk hw hcl
    have hlt : k + w ≤ e := by
      have hr := hcl.1 (w - 1) (by omega)
      rcases Nat.lt_or_ge (k + (w - 1)) e with g | g
      · omega
      · have := hc' _ g; omega
    have := clos_shift (b := b) (c := c) (P := 0) (st := st) (q := b i) (w := w) (j := k) (by intro m _ hm; rw [Nat.zero_add]; exact hc m (by omega)) hk
    simp only [Nat.zero_add] at this
    exact ⟨this.1 hcl, hlt⟩
  rcases h with ⟨j, h1, h2, h3, h4⟩ | ⟨h1, h2⟩
  · have hw := width_cases b i
    have hf := fin_le hb hq (by omega) h2.1
    have hwc : width c i = width b i := by
      rcases hw with ⟨w1, w2⟩ | ⟨w1, w2, w3⟩
      · unfold width at w1 ⊢
        rw [hci]
        by_cases g : c (i + 1) = b i ∧ c (i + 2) = b i
        · exfalso
          have e2 : i + 2 < e := by
            rcases Nat.lt_or_ge (i + 2) e with g' | g'
            · exact g'
            · have := hc' _ g'; omega
          rw [hc _ e2, hc (i + 1) (by omega)] at g
          exact w2 g
        · rw [if_neg g, if_neg w2]
      · have e2 : i + 2 < e := by omega
        unfold width
        rw [hci, hc _ e2, hc (i + 1) (by omega)]
    refine .inl ⟨j, ?_, ?_, ?_, ?_⟩
    · rw [hwc]; exact h1
    · rw [hwc, hci]
      have := clos_shift (b := b) (c := c) (P := 0) (st := i + width b i) (q := b i) (w := width b i) (j := j) (by intro m _ hm; rw [Nat.zero_add]; exact hc m (by omega)) h1
      simp only [Nat.zero_add] at this
      exact this.2 h2
    · intro k hk hkj hcl
      rw [hwc] at hk
      rw [hwc, hci] at hcl
      exact h3 k hk hkj (back _ _ k hk (by omega) hcl).1
    · rw [hwc, hci]
      rw [h4]
      rcases hw with ⟨w1, w2⟩ | ⟨w1, w2, w3⟩
      · rw [w1]; simp [fin]
      · rw [w1] at h4 ⊢
        unfold fin ext at h4 ⊢
        simp only [show (3 : Nat) ≠ 1 by omega, if_false] at h4 ⊢
        by_cases g3 : b (j + 3) = b i
        · rw [if_pos g3] at h4 ⊢
          by_cases g4 : b (j + 3 + 1) = b i
          · rw [if_pos g4] at h4 ⊢
            rw [if_pos (by rw [hc _ (by omega)]; exact g3), if_pos (by rw [hc _ (by omega)]; exact g4)]
          · rw [if_neg g4] at h4 ⊢
            rw [if_pos (by rw [hc _ (by omega)]; exact g3), if_neg (by rw [hc' _ (by omega)]; omega)]
        · rw [if_neg g3] at h4 ⊢
          rw [if_neg (by rw [hc' _ (by omega)]; omega)]
  · subst h2
    have hcb : ∀ k, c k = b k := by
      intro k
      rcases Nat.lt_or_ge k e with g | g
      · exact hc k g
      · rw [hc' k g, hb.2 k g]
    have : c = b := funext hcb
    subst this
    exact .inr ⟨h1, rfl⟩

/-- SURROUNDINGS: c holds b's n bytes from P on. -/
theorem around {b c : Nat → Nat} {n N P i e g : Nat} (hb : Bytes b n) (hcb : Bytes c N) (hi : i < n) (hP : P + n ≤ N) (h : IsEnd b n i e) (hc : ∀ k, k < n → c (P + k) = b k)
    (hg : IsEnd c N (P + i) g) : (e < n → g = P + e) ∧ (e = n → P + n ≤ g ∧ g ≤ N) := by
  have hq := hb.1 i hi
  have hci := hc i hi
  have hgw := isEnd_within hcb (by omega) hg
  obtain ⟨hie, hen⟩ := isEnd_within hb hi h
  -- same width where three bytes are there
  have hwid : i + 3 ≤ n → width c (P + i) = width b i := by
    intro h3
    unfold width
    rw [hci, show P + i + 1 = P + (i + 1) by omega, show P + i + 2 = P + (i + 2) by omega, hc _ (by omega), hc _ (by omega)]
  have hbig : ∀ k, b k = b i → k < n := by
    intro k hk
    rcases Nat.lt_or_ge k n with g | g
    · exact g
    · have := hb.2 k g; omega
  constructor
  · intro hlt
    have hw := width_cases b i
    have hwe : i + width b i + 1 ≤ e ∧ i + 3 ≤ n := by
      rcases h with ⟨j, h1, h2, h3, h4⟩ | ⟨h1, h2⟩
      · have := fin_le hb hq (by omega) h2.1
        omega
      · omega
    have hwc := hwid (by omega)
    refine isEnd_unique hg (.inl ?_)
    rcases h with ⟨j, h1, h2, h3, h4⟩ | ⟨h1, h2⟩
    · have hf := fin_le hb hq (by omega) h2.1
      refine ⟨P + j, ?_, ?_, ?_, ?_⟩
      · rw [hwc]; omega
      · rw [hwc, hci, Nat.add_assoc]
        exact (clos_shift (fun k h1 h2 => hc k (by omega)) h1).2 h2
      · intro k hk hkj hcl
        rw [hwc, hci] at hcl
        rw [hwc] at hk
        obtain ⟨m, rfl⟩ : ∃ m, k = P + m := ⟨k - P, by omega⟩
        rw [Nat.add_assoc] at hcl
        exact h3 m (by omega) (by omega) ((clos_shift (fun k h1 h2 => hc k (by omega)) (by omega)).1 hcl)
      · rw [hwc, hci, h4]
        rw [h4] at hlt
        rcases hw with ⟨w1, w2⟩ | ⟨w1, w2, w3⟩
        · rw [w1]; simp [fin]; omega
        · rw [w1] at hlt ⊢
          unfold fin ext at hlt ⊢
          simp only [show (3 : Nat) ≠ 1 by omega, if_false] at hlt ⊢
          by_cases g3 : b (j + 3) = b i
          · rw [if_pos g3] at hlt ⊢
            have l3 := hbig _ g3
            by_cases g4 : b (j + 3 + 1) = b i
            · rw [if_pos g4] at hlt ⊢
              rw [if_pos (by rw [show P + j + 3 = P + (j + 3) by omega, hc _ l3]; exact g3), if_pos (by rw [show P + j + 3 + 1 = P + (j + 3 + 1) by omega, hc _ (by omega)]; exact g4)]
              omega
            · rw [if_neg g4] at hlt ⊢
              rw [if_pos (by rw [show P + j + 3 = P + (j + 3) by omega, hc _ l3]; exact g3), if_neg (by rw [show P + j + 3 + 1 = P + (j + 3 + 1) by omega, hc _ (by omega)]; exact g4)]
              omega
          · rw [if_neg g3] at hlt ⊢
            rw [if_neg (by rw [show P + j + 3 = P + (j + 3) by omega, hc _ (by omega)]; exact g3)]
            omega
    · omega
  · intro hen'
    refine ⟨?_, hgw.2⟩
    rcases Nat.lt_or_ge g (P + n) with hlt | hge
    · exfalso
      have hwc' := width_cases c (P + i)
      rcases hg with ⟨j, h1, h2, h3, h4⟩ | ⟨h1, h2⟩
      · have hf := fin_le hcb (by have := hcb.1 (P + i) (by omega); omega) (by omega) h2.1
        have hwc := hwid (by omega)
        obtain ⟨m, rfl⟩ : ∃ m, j = P + m := ⟨j - P, by omega⟩
        rw [hwc] at h1 h2 h3 h4 hf
        rw [hci, Nat.add_assoc] at h2
        have hcl := (clos_shift (fun k h1 h2 => hc k (by omega)) (by omega)).1 h2
        -- so the string closes inside b too: at m or before: its end is at most that
        have he : IsEnd b n i (fin b (width b i) (b i) m) := by
          refine .inl ⟨m, by omega, hcl, ?_, rfl⟩
          intro k hk hkm hclk
          refine h3 (P + k) (by omega) (by omega) ?_
          rw [hci, Nat.add_assoc]
          exact (clos_shift (fun k h1 h2 => hc k (by omega)) hk).2 hclk
        have hee := isEnd_unique h he
        have hfb := fin_le hb hq (by have := width_cases b i; omega) hcl.1
        -- the whole's end is at least b's
        have : g = P + e := by
          rw [h4, hee, hci]
          rcases width_cases b i with ⟨w1, w2⟩ | ⟨w1, w2, w3⟩
          · rw [w1]; simp [fin]; omega
          · rw [w1]
            rw [w1, hci] at h4
            unfold fin ext at h4 ⊢
            simp only [show (3 : Nat) ≠ 1 by omega, if_false] at h4 ⊢
            have key : ∀ k, P + k < P + n → c (P + k) = b k := fun k hk => hc k (by omega)
            by_cases g3 : c (P + m + 3) = b i
            · rw [if_pos g3] at h4 ⊢
              have e3 : b (m + 3) = b i := by
                rw [← hc (m + 3) (by split at h4 <;> omega), ← g3]; congr 1
              rw [if_pos e3]
              by_cases g4 : c (P + m + 3 + 1) = b i
              · rw [if_pos g4] at h4 ⊢
                have e4 : b (m + 3 + 1) = b i := by
                  rw [← hc (m + 3 + 1) (by omega), ← g4]; congr 1
                rw [if_pos e4]; omega
              · rw [if_neg g4] at h4 ⊢
                have e4 : b (m + 3 + 1) ≠ b i := by
                  rw [← hc (m + 3 + 1) (by omega)]; exact g4
                rw [if_neg e4]; omega
            · rw [if_neg g3] at h4 ⊢
              have e3 : b (m + 3) ≠ b i := by
                rw [← hc (m + 3) (by omega)]; exact g3
              rw [if_neg e3]; omega
        omega
      · omega
    · exact hge

/-! ### what the forward scan keeps -/
def Scan (b : Nat → Nat) (st q w j : Nat) : Prop := st ≤ j ∧ (∀ k, st ≤ k → k < j → ¬ Clos b st q w k) ∧ (q = 34 → bs b st j % 2 = 0)

theorem scan_start (b : Nat → Nat) (st q w : Nat) : Scan b st q w st := by
  refine ⟨Nat.le_refl _, fun k h1 h2 => by omega, fun _ => ?_⟩
  cases st with
  | zero => rfl
  | succ m => simp only [bs]; rw [if_neg (by omega)]

/-- a backslash in a basic string: the next byte is skipped -/
theorem scan_skip {b : Nat → Nat} {st q w j : Nat} (hw : 0 < w) (h : Scan b st q w j) (h1 : b j = 92) (h2 : q = 34) : Scan b st q w (j + 2) := by
  obtain ⟨a1, a2, a3⟩ := h
  have e1 : bs b st (j + 1) = bs b st j + 1 := by simp [bs, a1, h1]
  refine ⟨by omega, ?_, fun _ => ?_⟩
  · intro k hk hkj hcl
    rcases Nat.lt_or_ge k j with g | g
    · exact a2 k hk g hcl
    · rcases Nat.eq_or_lt_of_le g with g | g
      · subst g
        have := hcl.1 0 hw
        simp at this; omega
      · have : k = j + 1 := by omega
        subst this
        apply hcl.2
        refine ⟨h2, ?_⟩
        rw [e1]; have := a3 h2; omega
  · have := a3 h2
    show bs b st ((j + 1) + 1) % 2 = 0
    rw [bs]
    split
    · rw [e1]; omega
    · rfl

theorem scan_next {b : Nat → Nat} {st q w j : Nat} (h : Scan b st q w j) (h1 : ¬ (b j = 92 ∧ q = 34)) (h2 : ¬ Run b j q w) : Scan b st q w (j + 1) := by
  obtain ⟨a1, a2, a3⟩ := h
  refine ⟨by omega, ?_, fun hq => ?_⟩
  · intro k hk hkj hcl
    rcases Nat.lt_or_ge k j with g | g
    · exact a2 k hk g hcl
    · have : k = j := by omega
      subst this
      exact h2 hcl.1
  · have : b j ≠ 92 := fun g => h1 ⟨g, hq⟩
    simp [bs, this]

theorem scan_hit {b : Nat → Nat} {n st q w j : Nat} (h : Scan b st q w j) (h2 : Run b j q w) : EndAt b n q w st (fin b w q j) := by
  obtain ⟨a1, a2, a3⟩ := h
  exact .inl ⟨j, a1, ⟨h2, fun g => by have := a3 g.1; omega⟩, a2, rfl⟩

theorem scan_out {b : Nat → Nat} {n st q w j : Nat} (hb : Bytes b n) (hq : q < 256) (hw : 0 < w) (h : Scan b st q w j) (hj : n ≤ j) : EndAt b n q w st n := by
  obtain ⟨a1, a2, a3⟩ := h
  refine .inr ⟨fun k hk hcl => ?_, rfl⟩
  rcases Nat.lt_or_ge k j with g | g
  · exact a2 k hk g hcl
  · have := hcl.1 0 hw
    have h2 := hb.2 (k + 0) (by omega)
    omega

end Go.Proofs.Qxb6600579a.Plain
