/-
  '(*parameterList).alike', walked: the short ways.
-/
import Derived.Test.Qxb6600630aView
import Derived.LaidEqlPtr
namespace Go.Proofs.Qxb6600630a
open Go.RowKit

/-- 'v.list()' hands back '.slice a n cap', in every world that keeps w's blocks -/
def Ls (w : World) (v : Value) (a : Option Addr) (n cap : Nat) : Prop :=
  ∀ w', Below w.heap.size w w' → Calls Try.prog 40 #[v] w' fun e w'' => e = .returned (.slice a n cap) ∧ w'' = w'

set_option maxHeartbeats 400000 in
theorem ls_nil (w : World) : Ls w (.pointer none) none 0 0 := by
  intro w' _
  go_enter Try.func40, Try.ntmps40
  go_wp2
  go_ret
  exact ⟨rfl, rfl⟩

set_option maxHeartbeats 400000 in
theorem ls_some (w : World) (p b n cap : Nat) (tx : Nat → ByteArray) (kn : Nat → Bool) (t : Int) (h : IsList w p b n cap tx kn t) : Ls w (.pointer (some ⟨p, 0, none⟩)) (some ⟨b, 0, none⟩) n cap := by
  intro w' hb
  have c0 : w'.cell? ⟨p, 0, none⟩ = some (.slice (some ⟨b, 0, none⟩) n cap) := by rw [hb.cell (p := ⟨p, 0, none⟩) h.pold]; exact h.hd
  go_enter Try.func40, Try.ntmps40
  go_wp2
  go_ret
  exact ⟨rfl, rfl⟩

set_option maxHeartbeats 1000000 in
theorem alike_differ (w : World) (vl vm : Value) (al am : Option Addr) (nl cl nm cm : Nat) (hl : Ls w vl al nl cl) (hm : Ls w vm am nm cm) (hne : nl ≠ nm) :
    Calls Try.prog 33 #[vl, vm] w fun e w' => e = .returned (.pointer none) ∧ w' = w := by
  have hne' : ((nl : Int) != (nm : Int)) = true := by simp; omega
  go_enter Try.func33, Try.ntmps33
  go_wp2_with fail
  refine (hl _ (Below.refl _ _)).mono ?_
  rintro e w1 ⟨rfl, rfl⟩
  go_wp2_with fail
  refine (hm _ (Below.refl _ _)).mono ?_
  rintro e w1 ⟨rfl, rfl⟩
  go_wp2_with fail
  go_ret
  exact ⟨rfl, rfl⟩

set_option maxHeartbeats 1000000 in
theorem alike_zero (w : World) (vl vm : Value) (al am : Option Addr) (cl cm : Nat) (hl : Ls w vl al 0 cl) (hm : Ls w vm am 0 cm) :
    Calls Try.prog 33 #[vl, vm] w fun e w' => e = .returned vl ∧ ∃ d, w' = w.drewN d := by
  go_enter Try.func33, Try.ntmps33
  go_wp2_with fail
  refine (hl _ (Below.refl _ _)).mono ?_
  rintro e w1 ⟨rfl, rfl⟩
  go_wp2_with fail
  refine (hm _ (Below.refl _ _)).mono ?_
  rintro e w1 ⟨rfl, rfl⟩
  go_wp2_with fail
  go_quiet (fail)
  go_wp2_with fail
  go_ret
  exact ⟨rfl, _, rfl⟩

set_option maxHeartbeats 1000000 in
theorem alike_self (w : World) (vl vm : Value) (b n cl cm : Nat) (hl : Ls w vl (some ⟨b, 0, none⟩) n cl) (hm : Ls w vm (some ⟨b, 0, none⟩) n cm) (hn : 0 < n) :
    Calls Try.prog 33 #[vl, vm] w fun e w' => e = .returned vl ∧ ∃ d, w' = w.drewN d := by
  have h0 : ((n : Int) == 0) = false := by simp; omega
  have h1 : (0 : Int) < (n : Int) := by omega
  obtain ⟨i0, hi0, _⟩ := info58
  have hq := fun (v : World) => run_eql_ptr_same (P := Try.prog) v ⟨b, 0, none⟩ Try.underlying67 hi0
  clear hi0
  go_enter Try.func33, Try.ntmps33
  go_wp2_with fail
  refine (hl _ (Below.refl _ _)).mono ?_
  rintro e w1 ⟨rfl, rfl⟩
  go_wp2_with fail
  refine (hm _ (Below.refl _ _)).mono ?_
  rintro e w1 ⟨rfl, rfl⟩
  go_wp2_with fail
  go_quiet (fail)
  go_wp2_with fail
  go_ret
  exact ⟨rfl, _, rfl⟩
end Go.Proofs.Qxb6600630a
