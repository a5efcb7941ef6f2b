/-
  'strings.Repeat(quote, 3)' and 'strings.HasPrefix(src[j:], quote)' as 'stringEnd' calls them.
-/
import Derived.Test.Qxb6600579aModel
import Derived.Test.Qxb6600579aShelf
import Derived.Lib.Strings
import Derived.Lib.IndexBytes
namespace Go.Proofs.Qxb6600579a
open Go.RowKit
open Plain

/-- w copies of one byte -/
def qs (c : UInt8) (w : Nat) : ByteArray := ⟨(List.replicate w c).toArray⟩
theorem qs_size (c : UInt8) (w : Nat) : (qs c w).size = w := by
  show (List.replicate w c).toArray.size = w
  simp
theorem qs_list (c : UInt8) (w : Nat) : (qs c w).data.toList = List.replicate w c := by simp [qs]
theorem qs_get (c : UInt8) (w : Nat) (k : Nat) (h : k < (qs c w).size) : (qs c w)[k] = c := by
  show (List.replicate w c).toArray[k]'_ = c
  simp

theorem get_list (s : ByteArray) (i : Nat) (h : i < s.size) : s.data.toList[i]? = some s[i] := by
  rw [List.getElem?_eq_getElem (by rw [← Lib.size_eq]; exact h)]; rfl

theorem extract_one (s : ByteArray) (i : Nat) (h : i < s.size) : s.extract i (i + 1) = qs s[i] 1 := by
  apply ByteArray.ext
  apply Array.ext'
  rw [Lib.extract_data, qs_list]
  have hl : i < s.data.toList.length := by rw [← Lib.size_eq]; exact h
  rw [List.drop_eq_getElem_cons hl, show i + 1 - i = 1 by omega]
  rfl

theorem bt_eq (s : ByteArray) (k : Nat) (c : UInt8) : bt s k = c.toNat ↔ s.data.toList[k]? = some c := by
  by_cases h : k < s.size
  · rw [bt_in h, get_list s k h]
    constructor
    · intro e; rw [UInt8.toNat_inj.1 e]
    · intro e; rw [Option.some.inj e]
  · rw [bt_out (by omega), List.getElem?_eq_none (by rw [← Lib.size_eq]; omega)]
    constructor
    · intro e; have := c.toNat_lt; omega
    · intro e; cases e

theorem pre_iff (l : List UInt8) (c : UInt8) : ∀ (w j : Nat), (List.replicate w c).isPrefixOf (l.drop j) = true ↔ ∀ t, t < w → l[j + t]? = some c
  | 0, j => by simp
  | w + 1, j => by
    rw [List.replicate_succ]
    by_cases hj : j < l.length
    · rw [List.drop_eq_getElem_cons hj, List.isPrefixOf_cons_cons, Bool.and_eq_true, pre_iff l c w (j + 1), beq_iff_eq]
      constructor
      · rintro ⟨h1, h2⟩ t ht
        match t, ht with
        | 0, _ => rw [Nat.add_zero, List.getElem?_eq_getElem hj, h1]
        | t + 1, ht =>
          have := h2 t (by omega)
          rw [← this]; congr 1; omega
      · intro h
        refine ⟨?_, fun t ht => ?_⟩
        · have := h 0 (by omega)
          rw [Nat.add_zero, List.getElem?_eq_getElem hj] at this
          exact (Option.some.inj this).symm
        · have := h (t + 1) (by omega)
          rw [← this]; congr 1; omega
    · rw [List.drop_eq_nil_of_le (by omega)]
      constructor
      · intro h; cases h
      · intro h
        have := h 0 (by omega)
        rw [List.getElem?_eq_none (by omega)] at this
        cases this

/-- does the quote stand w times at j? -/
def runB (s : ByteArray) (j : Nat) (c : UInt8) (w : Nat) : Bool := Lib.hasPrefix (s.extract j s.size).data.toList (qs c w).data.toList
theorem runB_iff (s : ByteArray) (j : Nat) (c : UInt8) (w : Nat) : runB s j c w = true ↔ Run (bt s) j c.toNat w := by
  unfold runB Lib.hasPrefix
  rw [Lib.extract_to_end, qs_list, pre_iff]
  exact ⟨fun h t ht => (bt_eq s (j + t) c).2 (h t ht), fun h t ht => (bt_eq s (j + t) c).1 (h t ht)⟩

theorem pre_any (s : ByteArray) (j : Nat) (c : UInt8) (n : Nat) (w : World) :
    Calls Try.prog 21 #[.string (s.extract j s.size), .string (qs c n)] w fun e w' => e = .returned (.bool (runB s j c n)) ∧ w' = w :=
  Try.strings_HasPrefix _ _ w

theorem rep_any (c : UInt8) (w : World) :
    Calls Try.prog 22 #[.string (qs c 1), .int .i64 3] w fun e w' => e = .returned (.string (qs c 3)) ∧ Below w.heap.size w w' := by
  have h := Try.strings_Repeat (qs c 1) 3 w (by omega) (by rw [qs_size]; omega)
  rw [qs_list] at h
  exact h


end Go.Proofs.Qxb6600579a
