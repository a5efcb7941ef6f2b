/-
  The law's search model ('planB1StringEndModel'), walked: it answers 'Plain.IsEnd'.
-/
import Derived.Test.Qxb6600579aBytes
namespace Go.Proofs.Qxb6600579a
open Go.RowKit
open Plain

theorem runOf_any (s : ByteArray) (ji qi li : Int) (w : World) (j q lim : Nat) (ej : ji = j) (eq : qi = q) (el : li = lim) (hs : s.size ≤ 1048576) (hj : j ≤ 2000000) (hl : lim ≤ 5) (hq : q < 256) :
    Calls Try.prog 18 #[.string s, .int .i64 ji, .int .u8 qi, .int .i64 li] w fun e w' => (∃ n : Nat, e = .returned (.int .i64 n) ∧ n ≤ lim ∧ Run (bt s) j q n ∧ (n < lim → bt s (j + n) ≠ q)) ∧ w' = w := by
  subst ej eq el
  exact runOf_calls s j lim q w hs hj hl hq

theorem bs_le (b : Nat → Nat) (st : Nat) : ∀ j, bs b st j ≤ j
  | 0 => Nat.le_refl _
  | j + 1 => by
    have := bs_le b st j
    rw [bs]; split <;> omega

theorem before_any (s : ByteArray) (sti ji : Int) (w : World) (st j : Nat) (es : sti = st) (ej : ji = j) (hs : s.size ≤ 1048576) (hj : j ≤ s.size) (hst : st ≤ j) :
    Calls Try.prog 19 #[.string s, .int .i64 sti, .int .i64 ji] w fun e w' => (∃ m : Nat, e = .returned (.int .i64 m) ∧ m = bs (bt s) st j ∧ m ≤ j) ∧ w' = w := by
  subst es ej
  refine (before_calls s st j w hs hj hst).mono ?_
  rintro e w' ⟨rfl, rfl⟩
  exact ⟨⟨_, rfl, rfl, bs_le _ _ _⟩, rfl⟩

theorem run_le {b : Nat → Nat} {j q n m : Nat} (h : Run b j q n) (hm : m ≤ n) : Run b j q m := fun t ht => h t (by omega)

theorem run_full {b : Nat → Nat} {j q n lim : Nat} (h : Run b j q n) (h2 : n < lim → b (j + n) ≠ q) (hn : n ≤ lim) : Run b j q lim ↔ n = lim := by
  constructor
  · intro hr
    rcases Nat.lt_or_ge n lim with g | g
    · exact absurd (hr n g) (h2 g)
    · omega
  · intro e; subst e; exact h

theorem width_of {b : Nat → Nat} {i n : Nat} (h : Run b i (b i) n) (h2 : n < 3 → b (i + n) ≠ b i) (hn : n ≤ 3) : width b i = if n = 3 then 3 else 1 := by
  have := run_full h h2 hn
  unfold width
  by_cases e : n = 3
  · have hr := this.2 e
    rw [if_pos ⟨hr 1 (by omega), hr 2 (by omega)⟩, if_pos e]
  · rw [if_neg e, if_neg]
    intro g
    refine e (this.1 ?_)
    intro t ht
    match t, ht with
    | 0, _ => rfl
    | 1, _ => exact g.1
    | 2, _ => exact g.2

theorem fin_of5 {b : Nat → Nat} {j q n : Nat} (h3 : Run b j q 3) (h : Run b j q n) (h2 : n < 5 → b (j + n) ≠ q) (hn : n ≤ 5) : j + n = fin b 3 q j := by
  have g3 : 3 ≤ n := by
    rcases Nat.lt_or_ge n 3 with g | g
    · exact absurd (h3 n g) (h2 (by omega))
    · exact g
  unfold fin ext
  simp only [show (3 : Nat) ≠ 1 by omega, if_false]
  by_cases e3 : n = 3
  · subst e3
    rw [if_neg (h2 (by omega))]
  · rw [if_pos (h 3 (by omega))]
    by_cases e4 : n = 4
    · subst e4
      rw [if_neg (h2 (by omega))]
    · rw [if_pos (h 4 (by omega))]; omega

/-- what the search keeps -/
def Sought (b : Nat → Nat) (st q w j : Nat) : Prop := st ≤ j ∧ ∀ k, st ≤ k → k < j → ¬ Clos b st q w k
theorem sought_next {b : Nat → Nat} {st q w j : Nat} (h : Sought b st q w j) (hc : ¬ Clos b st q w j) : Sought b st q w (j + 1) := by
  refine ⟨by have := h.1; omega, fun k h1 h2 => ?_⟩
  rcases Nat.lt_or_ge k j with g | g
  · exact h.2 k h1 g
  · have : k = j := by omega
    subst this; exact hc
theorem sought_hit {b : Nat → Nat} {n st q w j : Nat} (h : Sought b st q w j) (hc : Clos b st q w j) : EndAt b n q w st (fin b w q j) := .inl ⟨j, h.1, hc, h.2, rfl⟩
theorem sought_out {b : Nat → Nat} {n st q w j : Nat} (hb : Bytes b n) (hq : q < 256) (hw : 0 < w) (h : Sought b st q w j) (hj : n < j + w) : EndAt b n q w st n := by
  refine .inr ⟨fun k hk hcl => ?_, rfl⟩
  rcases Nat.lt_or_ge k j with g | g
  · exact h.2 k hk g hcl
  · have h1 := hcl.1 (w - 1) (by omega)
    have h2 := hb.2 (k + (w - 1)) (by omega)
    omega

theorem isEnd_of {b : Nat → Nat} {n i w e q : Nat} (hw : width b i = w) (hq : q = b i) (h : EndAt b n q w (i + w) e) : IsEnd b n i e := by
  subst hw hq; exact h

theorem ret_int {k : IntKind} {a b : Int} (h : a = b) : Ending.returned (.int k a) = .returned (.int k b) := by rw [h]
theorem int_ne {a b : Nat} (h : ¬ a = b) : ((a : Int) == (b : Int)) = false := by simp; omega

set_option maxHeartbeats 1000000 in
theorem model_calls (s : ByteArray) (i : Nat) (w : World) (hs : s.size ≤ 1048576) (hi : i < s.size) :
    Calls Try.prog 13 #[.string s, .int .i64 i] w fun e w' => (∃ n : Nat, e = .returned (.int .i64 n) ∧ IsEnd (bt s) s.size i n) ∧ w' = w := by
  have hb := bt_bytes s
  have hq : s[i].toNat < 256 := UInt8.toNat_lt _
  have HQ : Hid (s[i].toNat = bt s i) := (bt_in hi).symm
  go_enter Try.func13, Try.ntmps13
  go_wp2_with fail
  refine (runOf_any s _ _ _ _ i s[i].toNat 3 rfl rfl rfl hs (by omega) (by omega) hq).mono ?_
  rintro e w' ⟨⟨n3, rfl, g1, g2, g3⟩, rfl⟩
  have HW0 : Hid (width (bt s) i = if n3 = 3 then 3 else 1) := width_of (by rw [← HQ.out]; exact g2) (by rw [← HQ.out]; exact g3) g1
  clear g2 g3
  by_cases e3 : n3 = 3
  · subst e3
    have HW : Hid (width (bt s) i = 3) := HW0.out
    clear HW0
    go_wp2_with fail
    go_loop [8] (fun v => ∃ j : Nat, v = .int .i64 j ∧ j ≤ s.size + 4 ∧ Sought (bt s) (i + 3) s[i].toNat 3 j) (fun v => s.size + 4 - (intOf v).toNat)
    case atStart => exact ⟨i + 3, by go_num, by omega, Nat.le_refl _, fun k _ _ => by omega⟩
    case round =>
      obtain ⟨j, rfl, hj, hS⟩ := hrel
      have hS1 := hS.1
      by_cases hlt : j + 3 ≤ s.size
      · go_wp2_with fail
        refine (runOf_any s _ _ _ _ j s[i].toNat 3 rfl rfl rfl hs (by omega) (by omega) hq).mono ?_
        rintro e w'' ⟨⟨nr, rfl, r1, r2, r3⟩, rfl⟩
        by_cases hr : nr < 3
        · have hnc : Hid (¬ Clos (bt s) (i + 3) s[i].toNat 3 j) := fun hc => by have := (run_full r2 r3 r1).1 hc.1; omega
          clear r2 r3
          go_wp2_with fail
          go_round
          case rel => exact ⟨j + 1, by go_num, by omega, sought_next hS hnc.out⟩
          case measure => simp [intOf]; omega
        have HR : Hid (Run (bt s) j s[i].toNat 3) := (run_full r2 r3 r1).2 (by omega)
        clear r2 r3
        by_cases h34 : s[i].toNat = 34
        · have h34' : ((s[i].toNat : Int) == 34) = true := by rw [h34]; rfl
          have H34 : Hid (s[i].toNat = 34) := h34
          clear h34
          go_wp2_with fail
          refine (before_any s _ _ _ (i + 3) j (by omega) rfl hs (by omega) hS1).mono ?_
          rintro e w'' ⟨⟨m, rfl, hm, hmj⟩, rfl⟩
          have HM : Hid (m = bs (bt s) (i + 3) j) := hm
          clear hm
          by_cases hodd : m % 2 = 1
          · have ho : (((m : Int) % 2) == 1) = true := by simp; omega
            have hnc : Hid (¬ Clos (bt s) (i + 3) s[i].toNat 3 j) := fun hc => hc.2 ⟨H34.out, by rw [← HM.out]; exact hodd⟩
            clear hodd
            go_wp2_with fail
            go_round
            case rel => exact ⟨j + 1, by go_num, by omega, sought_next hS hnc.out⟩
            case measure => simp [intOf]; omega
          · have ho : (((m : Int) % 2) == 1) = false := by simp; omega
            have HC : Hid (Clos (bt s) (i + 3) s[i].toNat 3 j) := ⟨HR.out, fun g => hodd (by rw [HM.out]; exact g.2)⟩
            clear hodd
            go_wp2_with fail
            refine (runOf_any s _ _ _ _ j s[i].toNat 5 rfl rfl rfl hs (by omega) (by omega) hq).mono ?_
            rintro e w'' ⟨⟨n5, rfl, f1, f2, f3⟩, rfl⟩
            have HF : Hid (j + n5 = fin (bt s) 3 s[i].toNat j) := fin_of5 HR.out f2 f3 f1
            clear f2 f3
            go_wp2_with fail
            go_ret
            exact ⟨⟨fin (bt s) 3 s[i].toNat j, ret_int (by rw [← HF.out]; omega), isEnd_of HW.out HQ.out (sought_hit hS HC.out)⟩, rfl⟩
        · have h34' : ((s[i].toNat : Int) == 34) = false := by simp; omega
          have HC : Hid (Clos (bt s) (i + 3) s[i].toNat 3 j) := ⟨HR.out, fun g => h34 g.1⟩
          go_wp2_with fail
          refine (runOf_any s _ _ _ _ j s[i].toNat 5 rfl rfl rfl hs (by omega) (by omega) hq).mono ?_
          rintro e w'' ⟨⟨n5, rfl, f1, f2, f3⟩, rfl⟩
          have HF : Hid (j + n5 = fin (bt s) 3 s[i].toNat j) := fin_of5 HR.out f2 f3 f1
          clear f2 f3
          go_wp2_with fail
          go_ret
          exact ⟨⟨fin (bt s) 3 s[i].toNat j, ret_int (by rw [← HF.out]; omega), isEnd_of HW.out HQ.out (sought_hit hS HC.out)⟩, rfl⟩
      · go_wp2_with fail
        go_ret
        exact ⟨⟨s.size, rfl, isEnd_of HW.out HQ.out (sought_out hb hq (by omega) hS (by omega))⟩, rfl⟩
  · have HW : Hid (width (bt s) i = 1) := by have := HW0.out; rw [if_neg e3] at this; exact this
    have e3' : ((n3 : Int) == 3) = false := by simp; omega
    clear HW0 e3
    go_wp2_with fail
    go_loop [8] (fun v => ∃ j : Nat, v = .int .i64 j ∧ j ≤ s.size + 4 ∧ Sought (bt s) (i + 1) s[i].toNat 1 j) (fun v => s.size + 4 - (intOf v).toNat)
    case atStart => exact ⟨i + 1, by go_num, by omega, Nat.le_refl _, fun k _ _ => by omega⟩
    case round =>
      obtain ⟨j, rfl, hj, hS⟩ := hrel
      have hS1 := hS.1
      by_cases hlt : j + 1 ≤ s.size
      · go_wp2_with fail
        refine (runOf_any s _ _ _ _ j s[i].toNat 1 rfl rfl rfl hs (by omega) (by omega) hq).mono ?_
        rintro e w'' ⟨⟨nr, rfl, r1, r2, r3⟩, rfl⟩
        by_cases hr : nr < 1
        · have hnc : Hid (¬ Clos (bt s) (i + 1) s[i].toNat 1 j) := fun hc => by have := (run_full r2 r3 r1).1 hc.1; omega
          clear r2 r3
          go_wp2_with fail
          go_round
          case rel => exact ⟨j + 1, by go_num, by omega, sought_next hS hnc.out⟩
          case measure => simp [intOf]; omega
        have HR : Hid (Run (bt s) j s[i].toNat 1) := (run_full r2 r3 r1).2 (by omega)
        clear r2 r3
        by_cases h34 : s[i].toNat = 34
        · have h34' : ((s[i].toNat : Int) == 34) = true := by rw [h34]; rfl
          have H34 : Hid (s[i].toNat = 34) := h34
          clear h34
          go_wp2_with fail
          refine (before_any s _ _ _ (i + 1) j (by omega) rfl hs (by omega) hS1).mono ?_
          rintro e w'' ⟨⟨m, rfl, hm, hmj⟩, rfl⟩
          have HM : Hid (m = bs (bt s) (i + 1) j) := hm
          clear hm
          by_cases hodd : m % 2 = 1
          · have ho : (((m : Int) % 2) == 1) = true := by simp; omega
            have hnc : Hid (¬ Clos (bt s) (i + 1) s[i].toNat 1 j) := fun hc => hc.2 ⟨H34.out, by rw [← HM.out]; exact hodd⟩
            clear hodd
            go_wp2_with fail
            go_round
            case rel => exact ⟨j + 1, by go_num, by omega, sought_next hS hnc.out⟩
            case measure => simp [intOf]; omega
          · have ho : (((m : Int) % 2) == 1) = false := by simp; omega
            have HC : Hid (Clos (bt s) (i + 1) s[i].toNat 1 j) := ⟨HR.out, fun g => hodd (by rw [HM.out]; exact g.2)⟩
            clear hodd
            go_wp2_with fail
            go_ret
            exact ⟨⟨fin (bt s) 1 s[i].toNat j, ret_int (by simp [fin]), isEnd_of HW.out HQ.out (sought_hit hS HC.out)⟩, rfl⟩
        · have h34' : ((s[i].toNat : Int) == 34) = false := by simp; omega
          have HC : Hid (Clos (bt s) (i + 1) s[i].toNat 1 j) := ⟨HR.out, fun g => h34 g.1⟩
          go_wp2_with fail
          go_ret
          exact ⟨⟨fin (bt s) 1 s[i].toNat j, ret_int (by simp [fin]), isEnd_of HW.out HQ.out (sought_hit hS HC.out)⟩, rfl⟩
      · go_wp2_with fail
        go_ret
        exact ⟨⟨s.size, rfl, isEnd_of HW.out HQ.out (sought_out hb hq (by omega) hS (by omega))⟩, rfl⟩

end Go.Proofs.Qxb6600579a
