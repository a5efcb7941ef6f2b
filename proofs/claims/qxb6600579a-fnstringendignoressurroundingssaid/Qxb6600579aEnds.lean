/-
  'stringEnd' for every string and place; the bytes of a cut and of a join.
-/
import Derived.Test.Qxb6600579aStringEnd3
namespace Go.Proofs.Qxb6600579a
open Go.RowKit
open Plain

theorem end_calls (s : ByteArray) (i : Nat) (w : World) (hs : s.size ≤ 1048576) (hi : i < s.size) :
    Calls Try.prog 17 #[.string s, .int .i64 i] w fun e w' => (∃ n : Nat, e = .returned (.int .i64 n) ∧ IsEnd (bt s) s.size i n) ∧ Below w.heap.size w w' := by
  have HQ : s[i].toNat = bt s i := (bt_in hi).symm
  have HW := width_run HQ
  have hex := extract_one s i hi
  cases hr3 : runB s i s[i] 3
  · rw [hr3, if_neg (by simp)] at HW
    exact end_one s i w s[i] hs hi HQ HW hex hr3
  · rw [hr3, if_pos rfl] at HW
    exact end_three s i w s[i] hs hi HQ HW hex hr3

set_option maxHeartbeats 400000 in
/-- the thin shim 'ZZStringEnd' -/
theorem zzEnd_calls (s : ByteArray) (x : Int) (w : World) (i : Nat) (hx : x = i) (hs : s.size ≤ 1048576) (hi : i < s.size) :
    Calls Try.prog 12 #[.string s, .int .i64 x] w fun e w' => (∃ n : Nat, e = .returned (.int .i64 n) ∧ IsEnd (bt s) s.size i n) ∧ Below w.heap.size w w' := by
  subst hx
  go_enter Try.func12, Try.ntmps12
  go_wp2_with (go_at_call 17; refine (end_calls _ _ _ hs hi).mono ?_; rintro e w1 ⟨⟨n, rfl, hn⟩, hb⟩)
  go_ret
  exact ⟨⟨n, rfl, hn⟩, hb⟩

theorem size_cut (s : ByteArray) (e : Nat) (h : e ≤ s.size) : (s.extract 0 e).size = e := by
  rw [ByteArray.size_extract]; omega

theorem list_cut (s : ByteArray) (e : Nat) : (s.extract 0 e).data.toList = s.data.toList.take e := by
  rw [Lib.extract_data]; simp

theorem bt_list (s : ByteArray) (k : Nat) : bt s k = match s.data.toList[k]? with | some c => c.toNat | none => 256 := by
  by_cases h : k < s.size
  · rw [bt_in h, get_list s k h]
  · rw [bt_out (by omega), List.getElem?_eq_none (by rw [← Lib.size_eq]; omega)]

theorem bt_cut (s : ByteArray) (e : Nat) (h : e ≤ s.size) : (∀ k, k < e → bt (s.extract 0 e) k = bt s k) ∧ (∀ k, e ≤ k → bt (s.extract 0 e) k = 256) := by
  constructor
  · intro k hk
    rw [bt_list, bt_list, list_cut, List.getElem?_take_of_lt hk]
  · intro k hk
    exact bt_out (by rw [size_cut s e h]; exact hk)

theorem size_join (a b c : ByteArray) : (a ++ b ++ c).size = a.size + b.size + c.size := by
  rw [ByteArray.size_append, ByteArray.size_append]

theorem bt_join (a b c : ByteArray) (k : Nat) (hk : k < b.size) : bt (a ++ b ++ c) (a.size + k) = bt b k := by
  have e : (a ++ b ++ c).data.toList = a.data.toList ++ (b.data.toList ++ c.data.toList) := by
    rw [ByteArray.data_append, ByteArray.data_append]; simp
  rw [bt_list, bt_list, e, List.getElem?_append_right (by rw [Lib.size_eq]; omega), List.getElem?_append_left (by rw [← Lib.size_eq, ← Lib.size_eq]; omega)]
  rw [← Lib.size_eq]
  congr 2
  omega
end Go.Proofs.Qxb6600579a
