/-
  Slices of strings and of bools that came in, as the walks want them.
-/
import Derived.Test.Qxb6600630aRd
import Derived.SliceStrings
import Derived.Deep.Grids
import Derived.ProofKit
namespace Go.Proofs.Qxb6600630a
open Go.RowKit Go.ChangeShapes Go.WideShapes Go.Deep

theorem cell_lt {w : World} {a : Addr} {v : Value} (h : w.cell? a = some v) : a.block < w.heap.size := by
  rcases Nat.lt_or_ge a.block w.heap.size with g | g
  · exact g
  · have : w.heap[a.block]? = none := Array.getElem?_eq_none g
    simp [World.cell?, this] at h

theorem Rd.empty (w : World) (t : TypeId) (ad : Addr) (cap b off : Nat) (f : Nat → Value) : Rd w t (some ad) 0 cap b off f :=
  ⟨Nat.zero_le _, (fun e => by cases e), fun k hk => by omega, fun k hk => by omega, fun k hk => by omega⟩

theorem flat {w : World} {ad : Addr} {v : Value} (h : w.cell? (ad.add 0) = some v) : ad = ⟨ad.block, ad.off, none⟩ := by
  obtain ⟨b, off, spot⟩ := ad
  have hspot : spot = none := by simpa [Addr.add] using World.cell?_spot h
  subst hspot; rfl

theorem rd_strings {H : Type} {enc : TypeId × Value → H} {w : World} {base : Nat} {held : Bool} {fuel : Nat} {a : Option Addr} {n cap : Nat} {x : DataW H × List MemPlace}
    (h : DataW.trod enc Try.prog w base (fun _ => true) held fuel 25 [.slice a n cap] = some x) :
    ∃ (b off : Nat) (f : Nat → ByteArray), Rd w 25 a n cap b off (fun k => .string (f k)) ∧ ∀ k, k < n → (f k).size ≤ maxLen := by
  rcases open_strings Try.underlying25 Try.underlying9 (by kernel_rfl) h with ⟨hcs, _⟩ | ⟨ad, len, cap', ss, hcs, _, hl, hm, hz, _, hcell, hws⟩
  · simp at hcs
    obtain ⟨rfl, rfl, rfl⟩ := hcs
    exact ⟨0, 0, fun _ => ByteArray.empty, Rd.none _ _ _ _ _, fun k hk => by omega⟩
  · simp at hcs
    obtain ⟨rfl, rfl, rfl⟩ := hcs
    simp at hz
    rcases Nat.eq_zero_or_pos n with rfl | hn
    · exact ⟨0, 0, fun _ => ByteArray.empty, Rd.empty _ _ _ _ _ _ _, fun k hk => by omega⟩
    · have hfl := flat (hcell 0 (by omega))
      generalize ad.block = b at hfl
      generalize ad.off = off at hfl
      subst hfl
      have hc : ∀ k, k < n → w.cell? ⟨b, off + k, none⟩ = some (.string (ss.getD k ByteArray.empty)) := fun k hk => by
        have := hcell k (by omega)
        rw [Addr.add_lit] at this; exact this
      refine ⟨b, off, fun k => ss.getD k ByteArray.empty, ⟨by omega, (fun e => by cases e), fun k hk v => idx25 b off n cap k hk v, hc, fun k hk => cell_lt (hc k hk)⟩, ?_⟩
      intro k hk
      show (ss.getD k ByteArray.empty).size ≤ maxLen
      refine hws _ ?_
      rw [List.getD_eq_getElem?_getD, List.getElem?_eq_getElem (by omega)]
      exact List.getElem_mem _

theorem rd_bools {H : Type} {enc : TypeId × Value → H} {w : World} {base : Nat} {held : Bool} {fuel : Nat} {a : Option Addr} {n cap : Nat} {x : DataW H × List MemPlace}
    (h : DataW.trod enc Try.prog w base (fun _ => true) held fuel 29 [.slice a n cap] = some x) :
    ∃ (b off : Nat) (f : Nat → Bool), Rd w 29 a n cap b off (fun k => .bool (f k)) := by
  rcases open_bools Try.underlying29 Try.underlying4 (by kernel_rfl) h with ⟨hcs, _⟩ | ⟨ad, len, cap', B, hcs, _, hl, hm, _, hcell⟩
  · simp at hcs
    obtain ⟨rfl, rfl, rfl⟩ := hcs
    exact ⟨0, 0, fun _ => false, Rd.none _ _ _ _ _⟩
  · simp at hcs
    obtain ⟨rfl, rfl, rfl⟩ := hcs
    rcases Nat.eq_zero_or_pos n with rfl | hn
    · exact ⟨0, 0, fun _ => false, Rd.empty _ _ _ _ _ _ _⟩
    · have hfl := flat (hcell 0 (by omega))
      generalize ad.block = b at hfl
      generalize ad.off = off at hfl
      subst hfl
      have hc : ∀ k, k < n → w.cell? ⟨b, off + k, none⟩ = some (.bool (B k)) := fun k hk => by
        have := hcell k (by omega)
        rw [Addr.add_lit] at this; exact this
      exact ⟨b, off, B, ⟨by omega, (fun e => by cases e), fun k hk v => idx29 b off n cap k hk v, hc, fun k hk => cell_lt (hc k hk)⟩⟩
end Go.Proofs.Qxb6600630a
