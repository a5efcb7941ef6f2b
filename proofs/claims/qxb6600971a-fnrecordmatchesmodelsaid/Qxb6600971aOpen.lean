/-
  A slice of steps that came in, as the walks want it.
-/
import Derived.Test.Qxb6600971aSteps
import Derived.Deep.Slices
import Derived.SliceStrings
import Derived.ProofKit
namespace Go.Proofs.Qxb6600971a
open Go.RowKit Go.ChangeShapes Go.WideShapes Go.Deep

theorem cell_lt {w : World} {a : Addr} {v : Value} (h : w.cell? a = some v) : a.block < w.heap.size := by
  rcases Nat.lt_or_ge a.block w.heap.size with g | g
  · exact g
  · have : w.heap[a.block]? = none := Array.getElem?_eq_none g
    simp [World.cell?, this] at h

theorem flat {w : World} {ad : Addr} {v : Value} (h : w.cell? (ad.add 0) = some v) : ad = ⟨ad.block, ad.off, none⟩ := by
  obtain ⟨b, off, spot⟩ := ad
  have hspot : spot = none := by simpa [Addr.add] using World.cell?_spot h
  subst hspot; rfl

theorem cells37 : Try.prog.cellsOf 37 = 5 := by kernel_rfl
theorem cells9 : Try.prog.cellsOf 9 = 1 := by kernel_rfl
theorem cells35 : Try.prog.cellsOf 35 = 1 := by kernel_rfl
theorem cells3 : Try.prog.cellsOf 3 = 1 := by kernel_rfl
theorem cells2 : Try.prog.cellsOf 2 = 1 := by kernel_rfl

theorem step_of {H : Type} {enc : TypeId × Value → H} {w : World} {base : Nat} {sp : Nat → Bool} {held : Bool} {fuel : Nat} {a : Addr} {cs : List Value} {x : DataW H × List MemPlace}
    (h1 : w.cells? base a 5 = some cs) (h : DataW.trod enc Try.prog w base sp held fuel 37 cs = some x) :
    ∃ s : St, s.id.size ≤ maxLen ∧ w.cell? (a.add 0) = some (.string s.id) ∧ w.cell? (a.add 1) = some (.int .u64 s.seq) ∧ w.cell? (a.add 2) = some (.int .i64 s.n) ∧ w.cell? (a.add 3) = some (.int .u64 s.first) ∧ w.cell? (a.add 4) = some (.int .i64 s.now) := by
  obtain ⟨_, hlen, hcell⟩ := World.cells?_some h1
  obtain ⟨xs, k, hk, hxy, _, hxl, hf⟩ := DataW.trod_struct Try.underlying37 h
  match xs, hxl, cs, hlen with
  | [y0, y1, y2, y3, y4], _, [v0, v1, v2, v3, v4], _ =>
    have g0 := hf 0 _ rfl
    have g1 := hf 1 _ rfl
    have g2 := hf 2 _ rfl
    have g3 := hf 3 _ rfl
    have g4 := hf 4 _ rfl
    simp [cells9, cells35, cells3, cells2] at g0 g1 g2 g3 g4
    obtain ⟨s, e0, _, hs⟩ := DataW.trod_string Try.underlying9 g0
    obtain ⟨n1, e1, _⟩ := DataW.trod_int Try.underlying35 g1
    obtain ⟨n2, e2, _⟩ := DataW.trod_int Try.underlying3 g2
    obtain ⟨n3, e3, _⟩ := DataW.trod_int Try.underlying35 g3
    obtain ⟨n4, e4, _⟩ := DataW.trod_int Try.underlying2 g4
    simp at e0 e1 e2 e3 e4
    subst e0 e1 e2 e3 e4
    exact ⟨⟨s, n1, n2, n3, n4⟩, hs, by rw [hcell 0 (by omega)]; rfl, by rw [hcell 1 (by omega)]; rfl, by rw [hcell 2 (by omega)]; rfl, by rw [hcell 3 (by omega)]; rfl, by rw [hcell 4 (by omega)]; rfl⟩

instance : Inhabited St := ⟨⟨ByteArray.empty, 0, 0, 0, 0⟩⟩

theorem RdS.empty (w : World) (ad : Addr) (cap b off : Nat) (f : Nat → St) : RdS w (some ad) 0 cap b off f :=
  ⟨Nat.zero_le _, (fun e => by cases e), fun k hk => by omega, fun k hk => by omega, fun k hk => by omega, fun k hk => by omega⟩

theorem rd_steps {H : Type} {enc : TypeId × Value → H} {w : World} {base : Nat} {held : Bool} {fuel : Nat} {a : Option Addr} {n cap : Nat} {x : DataW H × List MemPlace}
    (h : DataW.trod enc Try.prog w base (fun _ => true) held fuel 22 [.slice a n cap] = some x) :
    ∃ (b off : Nat) (f : Nat → St), RdS w a n cap b off f := by
  rcases open_slice Try.underlying22 h with ⟨hcs, _⟩ | ⟨ad, len, cap', m, fu, D, Pl, hcs, _, hl, hm, hmm, _, hx⟩
  · simp at hcs
    obtain ⟨rfl, rfl, rfl⟩ := hcs
    exact ⟨0, 0, fun _ => default, RdS.none _ _ _ _⟩
  · simp at hcs
    obtain ⟨rfl, rfl, rfl⟩ := hcs
    simp only [if_true] at hmm
    rcases Nat.eq_zero_or_pos n with rfl | hn
    · exact ⟨0, 0, fun _ => default, RdS.empty _ _ _ _ _ _⟩
    · obtain ⟨f, hfs⟩ := choose_lt (n := n) (fun i hi => by
        obtain ⟨cs', h1, h2⟩ := hx i (by omega)
        rw [cells37] at h1
        exact step_of h1 h2)
      have h00 := (hfs 0 hn).2.1
      rw [Nat.zero_mul] at h00
      have hfl : ad = ⟨ad.block, ad.off, none⟩ := by
        refine flat (w := w) (v := .string (f 0).id) ?_
        rw [add_add] at h00
        simpa using h00
      generalize ad.block = b at hfl
      generalize ad.off = off at hfl
      subst hfl
      have hc : ∀ k, k < n → ∀ j, ((⟨b, off, none⟩ : Addr).add (k * 5)).add j = ⟨b, off + (k * 5 + j), none⟩ := fun k hk j => by
        rw [add_add, Addr.add_lit]
      refine ⟨b, off, f, ⟨by omega, (fun e => by cases e), fun k hk v => idx22 b off n cap k hk v, fun i hi => ?_, fun k hk => (hfs k hk).1, fun k hk => ?_⟩⟩
      · obtain ⟨k, j, rfl, hj, hk⟩ : ∃ k j, i = k * 5 + j ∧ j < 5 ∧ k < n := ⟨i / 5, i % 5, by omega, by omega, by omega⟩
        obtain ⟨_, r0, r1, r2, r3, r4⟩ := hfs k hk
        rw [hc k hk] at r0 r1 r2 r3 r4
        have hj' : j = 0 ∨ j = 1 ∨ j = 2 ∨ j = 3 ∨ j = 4 := by omega
        rcases hj' with rfl | rfl | rfl | rfl | rfl
        · rw [r0, Nat.add_zero, scell0]
        · rw [r1, scell1]
        · rw [r2, scell2]
        · rw [r3, scell3]
        · rw [r4, scell4]
      · have := (hfs k hk).2.1
        rw [hc k hk] at this
        exact cell_lt this
end Go.Proofs.Qxb6600971a
