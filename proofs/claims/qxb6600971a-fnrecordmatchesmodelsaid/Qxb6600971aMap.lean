/-
  The map of clients: what a look-up finds, what a store does.
-/
import Derived.Test.Qxb6600971aLink2
import Derived.Maps.OwnSet
import Derived.StringKeys
namespace Go.Proofs.Qxb6600971a
open Go.RowKit Go.Deep Go.Maps Go.WideMaps

/-- how an element of the map reads: a pointer as its block's number -/
def ptrElem : Value → Option (DataW Unit × List MemPlace)
  | .pointer none => some (.nil, [])
  | .pointer (some ⟨b, 0, none⟩) => some (.lit (.int .i64 b), [])
  | _ => none

def ptrO (o : Option Nat) : Value := match o with | none => .pointer none | some b => ptr b
def datO (o : Option Nat) : DataW Unit := match o with | none => .nil | some b => .lit (.int .i64 b)

theorem ptrElem_O (o : Option Nat) : ptrElem (ptrO o) = some (datO o, []) := by cases o <;> rfl
theorem ptrElem_inv {v : Value} {o : Option Nat} {ps : List MemPlace} (h : ptrElem v = some (datO o, ps)) : v = ptrO o := by
  unfold ptrElem at h
  split at h
  · cases o with
    | none => rfl
    | some b => simp [datO] at h
  · cases o with
    | none => simp [datO] at h
    | some b =>
      simp [datO] at h
      obtain ⟨h, _⟩ := h
      simp [ptrO, ptr]
      try omega
  · cases h

theorem law : Keyed Try.prog 9 := string_keyed Try.underlying9
theorem zero30 (w : World) : (zeroValue 30).run Try.prog w = .ok (.pointer none) w := by kernel_rfl

/-- the map in the log's field: M: the block of each id's client; n: how many -/
def MapIs (w : World) (mo : Option Nat) (M : ByteArray → Option Nat) (n : Nat) : Prop :=
  match mo with
  | none => (∀ s, M s = none) ∧ n = 0
  | some mb => ∃ D, w.ownsMap Try.prog 9 ptrElem mb n D ∧ Maps.size D = n ∧ ∀ s : ByteArray, s.size ≤ maxLen → D.atKey (.string s.data.toList) .nil = datO (M s) ∧ Maps.has D (.string s.data.toList) = (M s).isSome

theorem MapIs.look {w : World} {mo : Option Nat} {M : ByteArray → Option Nat} {n : Nat} (h : MapIs w mo M n) {s : ByteArray} (hs : s.size ≤ maxLen) : (Instr.lookup 29 (.map mo) (.string s) false).run Try.prog w = .ok (ptrO (M s)) w := by
  cases mo with
  | none =>
    rw [h.1 s]
    exact Maps.look_nil false law Try.underlying29 (zero30 w) (keyOf_string_mk Try.underlying9 hs)
  | some mb =>
    obtain ⟨D, hown, _, hD⟩ := h
    obtain ⟨v, ps, hrun, hv⟩ := hown.lookup law Try.underlying29 (zero30 w) (zd := .nil) (zp := []) rfl (keyOf_string_mk Try.underlying9 hs)
    rw [(hD s hs).1] at hv
    rw [hrun, ptrElem_inv hv]

theorem MapIs.len {w : World} {mo : Option Nat} {M : ByteArray → Option Nat} {n : Nat} (h : MapIs w mo M n) (ty : TypeId) : (Builtin.len_ #[29] ty #[.map mo]).run Try.prog w = .ok (.int .i64 (n : Int)) w := by
  cases mo with
  | none => rw [h.2]; exact Maps.len_nil Try.underlying29 ty
  | some mb =>
    obtain ⟨D, hown, hn, _⟩ := h
    rw [hown.len Try.underlying29 ty, hn]

theorem MapIs.of_block {w w' : World} {mo : Option Nat} {M : ByteArray → Option Nat} {n : Nat} (h : MapIs w mo M n) (e : ∀ mb, mo = some mb → w'.heap[mb]? = w.heap[mb]?) : MapIs w' mo M n := by
  cases mo with
  | none => exact h
  | some mb =>
    obtain ⟨D, ⟨es, clock, hb, r⟩, h2⟩ := h
    exact ⟨D, ⟨es, clock, (e mb rfl).trans hb, r⟩, h2⟩

theorem MapIs.lt {w : World} {mb : Nat} {M : ByteArray → Option Nat} {n : Nat} (h : MapIs w (some mb) M n) : mb < w.heap.size := by
  obtain ⟨D, hown, _⟩ := h
  exact hown.lt

/-- a map's block is no row of cells -/
theorem MapIs.not_row {w : World} {mb : Nat} {M : ByteArray → Option Nat} {n b t k : Nat} {f : Nat → Value} (h : MapIs w (some mb) M n) (hr : w.rowIs b t k f) : mb ≠ b := by
  obtain ⟨D, ⟨es, clock, hb, _⟩, _⟩ := h
  obtain ⟨c, hc, _⟩ := hr
  intro e
  rw [e, hc] at hb
  cases hb

def upd (M : ByteArray → Option Nat) (s : ByteArray) (b : Nat) (x : ByteArray) : Option Nat := if x = s then some b else M x

theorem bytes_inj {a b : ByteArray} (h : a.data.toList = b.data.toList) : a = b := by
  apply ByteArray.ext
  exact Array.ext' h

theorem MapIs.made (w : World) : MapIs (w.alloc (.map #[] 0)) (some w.heap.size) (fun _ => none) 0 :=
  ⟨.map [], World.ownsMap_made w Try.prog 9 ptrElem, rfl, fun _ _ => ⟨rfl, rfl⟩⟩

theorem MapIs.store {w : World} {mb : Nat} {M : ByteArray → Option Nat} {n : Nat} (h : MapIs w (some mb) M n) (hn : n < maxLen) {s : ByteArray} (hs : s.size ≤ maxLen) (hM : M s = none) (b : Nat) :
    ∃ w', (Instr.mapUpdate 29 (.map (some mb)) (.string s) (ptr b)).run Try.prog w = .ok () w' ∧ MapIs w' (some mb) (upd M s b) (n + 1) ∧ w.grownBy w' (some mb) := by
  obtain ⟨D, hown, hsz, hD⟩ := h
  have hkl : WideAt.IsKeyLit (.string s.data.toList) := by trivial
  obtain ⟨w', hrun, h1, h2⟩ := hown.update law Try.underlying29 hn (keyOf_string_mk Try.underlying9 hs) (ptrElem_O (some b))
  refine ⟨w', hrun, ⟨_, h1, ?_, ?_⟩, h2⟩
  · rw [size_put (hown.tidy law), (hD s hs).2, hM, hsz]; rfl
  · intro x hx
    by_cases e : x = s
    · subst e
      rw [atKey_put_same hown.isMap hkl, has_put_same hown.isMap hkl]
      simp [upd, datO]
    · have hne : Lit.string x.data.toList ≠ .string s.data.toList := fun g => e (bytes_inj (by injection g))
      rw [atKey_put_other hne, has_put_other hne]
      simp [upd, e, hD x hx]

open Go.ChangeMaps (setBlock heap_setBlock_same heap_setBlock_other)

/-- the store at a new key, said of every world that holds this map's block -/
theorem MapIs.stores {w : World} {mb : Nat} {M : ByteArray → Option Nat} {n : Nat} (h : MapIs w (some mb) M n) (hn : n < maxLen) {s : ByteArray} (hs : s.size ≤ maxLen) (hM : M s = none) (b : Nat) :
    ∃ o : Obj, ∀ X : World, X.heap[mb]? = w.heap[mb]? → (Instr.mapUpdate 29 (.map (some mb)) (.string s) (ptr b)).run Try.prog X = .ok () (setBlock X mb o) ∧ MapIs (setBlock X mb o) (some mb) (upd M s b) (n + 1) := by
  have hkey := keyOf_string_mk Try.underlying9 hs
  obtain ⟨D, ⟨es, clock, hb, F, hes, hDD⟩, hsz, hD⟩ := h
  have hnot : ∀ x ∈ es.toList, x.key ≠ .string s := by
    rcases Maps.fit_look false law Try.underlying29 (zero30 w) hb F hkey with ⟨_, h2, _⟩ | ⟨e0, y, _, _, _, _, hat, _⟩
    · exact h2
    · have := Maps.has_true_of_atKey hat
      rw [← hDD, (hD s hs).2, hM] at this
      cases this
  refine ⟨.map (es.push ⟨.string s, ptr b, clock⟩) (clock + 1), fun X hX => ?_⟩
  have hbX := hX.trans hb
  have hrunX : (Instr.mapUpdate 29 (.map (some mb)) (.string s) (ptr b)).run Try.prog X = .ok () (setBlock X mb (.map (es.push ⟨.string s, ptr b, clock⟩) (clock + 1))) := by
    rcases law.find X hkey es.toList F.keys with ⟨h1, _⟩ | ⟨j, e0, _, h2, h3⟩
    · simp [Instr.mapUpdate, run_underlying Try.underlying29, MapKept.run_getObj_map hbX, law.check X false hkey, h1, MapKept.run_setObj_map _ hbX, Result.andThen, setBlock]
    · exact absurd h3 (hnot e0 (List.mem_of_getElem? h2))
  refine ⟨hrunX, ?_⟩
  have hXm : MapIs X (some mb) M n := ⟨D, ⟨es, clock, hbX, F, hes, hDD⟩, hsz, hD⟩
  obtain ⟨w', hrun', hm', _⟩ := hXm.store hn hs hM b
  rw [hrunX] at hrun'
  cases hrun'
  exact hm'
end Go.Proofs.Qxb6600971a
