/-
  The list of clients in memory: a doubly linked segment; no walk.
-/
import Derived.Test.Qxb6600971aProg
import Derived.WalkKit
import Derived.WalkSpells
import Derived.Outline
import Derived.Deep.OwnRows
namespace Go.Proofs.Qxb6600971a
open Go.RowKit Go.Deep

/-- a client: its block, and what it holds -/
structure Cl where
  blk : Nat
  id : ByteArray
  seq : Int
  first : Int
  ent : Int
  tm : Int

def ptr (b : Nat) : Value := .pointer (some ⟨b, 0, none⟩)

def ncell (c : Cl) (pv nx : Value) (i : Nat) : Value :=
  if i = 0 then .int .u64 c.seq else if i = 1 then .int .u64 c.first else if i = 2 then .int .i64 c.ent else if i = 3 then .string c.id else if i = 4 then .int .i64 c.tm else if i = 5 then pv else nx

/-- the client's block holds the client, and leads to pv and nx -/
def Node (w : World) (c : Cl) (pv nx : Value) : Prop := w.rowIs c.blk 68 7 (ncell c pv nx)

/-- the first of the list; else nx -/
def hdv (nx : Value) : List Cl → Value
  | [] => nx
  | c :: _ => ptr c.blk
/-- the last of the list; else pv -/
def lastv (pv : Value) : List Cl → Value
  | [] => pv
  | c :: L => lastv (ptr c.blk) L

/-- the clients of L, each linked to its neighbours; the first leads back to pv, the last on to nx -/
def Seg (w : World) (pv : Value) : List Cl → Value → Prop
  | [], _ => True
  | c :: L, nx => Node w c pv (hdv nx L) ∧ Seg w (ptr c.blk) L nx

theorem hdv_append (nx : Value) (A Z : List Cl) : hdv nx (A ++ Z) = hdv (hdv nx Z) A := by
  cases A <;> rfl
theorem lastv_append (pv : Value) : ∀ (A Z : List Cl), lastv pv (A ++ Z) = lastv (lastv pv A) Z
  | [], _ => rfl
  | c :: A, Z => lastv_append (ptr c.blk) A Z
theorem lastv_snoc (pv : Value) (A : List Cl) (a : Cl) : lastv pv (A ++ [a]) = ptr a.blk := by rw [lastv_append]; rfl

theorem seg_append (w : World) : ∀ (pv : Value) (A Z : List Cl) (nx : Value), Seg w pv (A ++ Z) nx ↔ Seg w pv A (hdv nx Z) ∧ Seg w (lastv pv A) Z nx
  | pv, [], Z, nx => by simp [Seg, lastv]
  | pv, c :: A, Z, nx => by
    simp only [List.cons_append, Seg, lastv, seg_append w (ptr c.blk) A Z nx, hdv_append, and_assoc]

theorem node_of_block {w w' : World} {c : Cl} {pv nx : Value} (h : Node w c pv nx) (e : w'.heap[c.blk]? = w.heap[c.blk]?) : Node w' c pv nx := h.of_block e

theorem seg_of_blocks {w w' : World} : ∀ {pv : Value} {L : List Cl} {nx : Value}, Seg w pv L nx → (∀ c ∈ L, w'.heap[c.blk]? = w.heap[c.blk]?) → Seg w' pv L nx
  | _, [], _, _, _ => trivial
  | _, c :: L, _, h, e => ⟨node_of_block h.1 (e c (by simp)), seg_of_blocks h.2 (fun d hd => e d (by simp [hd]))⟩

theorem seg_setOther {w : World} {pv : Value} {L : List Cl} {nx : Value} (h : Seg w pv L nx) {a : Addr} (ha : ∀ c ∈ L, c.blk ≠ a.block) (v : Value) : Seg (w.setCell a v) pv L nx :=
  seg_of_blocks h (fun c hc => blk_setCell_other _ _ _ _ (ha c hc))

/-- the last client's next is turned -/
theorem seg_setNext {w : World} {pv : Value} {A : List Cl} {a : Cl} {nx : Value} (h : Seg w pv (A ++ [a]) nx) (hn : ∀ c ∈ A, c.blk ≠ a.blk) (nx' : Value) : Seg (w.setCell ⟨a.blk, 6, none⟩ nx') pv (A ++ [a]) nx' := by
  rw [seg_append] at h ⊢
  refine ⟨seg_setOther h.1 (a := ⟨a.blk, 6, none⟩) hn _, ?_, trivial⟩
  refine (h.2.1.set 6 nx').congr fun i hi => ?_
  by_cases e : i = 6
  · subst e; simp [ncell, hdv]
  · have : i = 0 ∨ i = 1 ∨ i = 2 ∨ i = 3 ∨ i = 4 ∨ i = 5 := by omega
    rcases this with rfl | rfl | rfl | rfl | rfl | rfl <;> simp [ncell]

/-- the first client's prev is turned -/
theorem seg_setPrev {w : World} {pv : Value} {z : Cl} {Z : List Cl} {nx : Value} (h : Seg w pv (z :: Z) nx) (hn : ∀ c ∈ Z, c.blk ≠ z.blk) (pv' : Value) : Seg (w.setCell ⟨z.blk, 5, none⟩ pv') pv' (z :: Z) nx := by
  refine ⟨?_, seg_setOther h.2 (a := ⟨z.blk, 5, none⟩) hn _⟩
  refine (h.1.set 5 pv').congr fun i hi => ?_
  by_cases e : i = 5
  · subst e; simp [ncell]
  · have : i = 0 ∨ i = 1 ∨ i = 2 ∨ i = 3 ∨ i = 4 ∨ i = 6 := by omega
    rcases this with rfl | rfl | rfl | rfl | rfl | rfl <;> simp [ncell]

theorem node_setPrev {w : World} {c : Cl} {pv nx : Value} (h : Node w c pv nx) (pv' : Value) : Node (w.setCell ⟨c.blk, 5, none⟩ pv') c pv' nx := by
  refine (h.set 5 pv').congr fun i hi => ?_
  have : i = 0 ∨ i = 1 ∨ i = 2 ∨ i = 3 ∨ i = 4 ∨ i = 5 ∨ i = 6 := by omega
  rcases this with rfl | rfl | rfl | rfl | rfl | rfl | rfl <;> simp [ncell]
theorem node_setNext {w : World} {c : Cl} {pv nx : Value} (h : Node w c pv nx) (nx' : Value) : Node (w.setCell ⟨c.blk, 6, none⟩ nx') c pv nx' := by
  refine (h.set 6 nx').congr fun i hi => ?_
  have : i = 0 ∨ i = 1 ∨ i = 2 ∨ i = 3 ∨ i = 4 ∨ i = 5 ∨ i = 6 := by omega
  rcases this with rfl | rfl | rfl | rfl | rfl | rfl | rfl <;> simp [ncell]
theorem node_setOther {w : World} {c : Cl} {pv nx : Value} (h : Node w c pv nx) {a : Addr} (ha : c.blk ≠ a.block) (v : Value) : Node (w.setCell a v) c pv nx := h.setOther ha v

/-- the log's own block -/
def rcell (mo : Option Nat) (hd tl : Value) (now peak : Int) (i : Nat) : Value :=
  if i = 0 then .map mo else if i = 1 then hd else if i = 2 then tl else if i = 3 then .int .i64 now else .int .i64 peak
def Rq (w : World) (r : Nat) (mo : Option Nat) (hd tl : Value) (now peak : Int) : Prop := w.rowIs r 32 5 (rcell mo hd tl now peak)

theorem rq_set {w : World} {r : Nat} {mo : Option Nat} {hd tl : Value} {now peak : Int} (h : Rq w r mo hd tl now peak) :
    (∀ v, Rq (w.setCell ⟨r, 1, none⟩ v) r mo v tl now peak) ∧ (∀ v, Rq (w.setCell ⟨r, 2, none⟩ v) r mo hd v now peak) ∧ (∀ n, Rq (w.setCell ⟨r, 3, none⟩ (.int .i64 n)) r mo hd tl n peak) ∧
    (∀ n, Rq (w.setCell ⟨r, 4, none⟩ (.int .i64 n)) r mo hd tl now n) ∧ (∀ m, Rq (w.setCell ⟨r, 0, none⟩ (.map m)) r m hd tl now peak) := by
  refine ⟨?_, ?_, ?_, ?_, ?_⟩ <;> intro v <;> refine (h.set _ _).congr fun i hi => ?_ <;>
    (have : i = 0 ∨ i = 1 ∨ i = 2 ∨ i = 3 ∨ i = 4 := by omega) <;> rcases this with rfl | rfl | rfl | rfl | rfl <;> simp [rcell]
theorem rq_setOther {w : World} {r : Nat} {mo : Option Nat} {hd tl : Value} {now peak : Int} (h : Rq w r mo hd tl now peak) {a : Addr} (ha : r ≠ a.block) (v : Value) : Rq (w.setCell a v) r mo hd tl now peak := h.setOther ha v

/-- what a walk reads of a node -/
theorem node_cells {w : World} {c : Cl} {pv nx : Value} (h : Node w c pv nx) :
    w.cell? ⟨c.blk, 0, none⟩ = some (.int .u64 c.seq) ∧ w.cell? ⟨c.blk, 1, none⟩ = some (.int .u64 c.first) ∧ w.cell? ⟨c.blk, 2, none⟩ = some (.int .i64 c.ent) ∧ w.cell? ⟨c.blk, 3, none⟩ = some (.string c.id) ∧
    w.cell? ⟨c.blk, 4, none⟩ = some (.int .i64 c.tm) ∧ w.cell? ⟨c.blk, 5, none⟩ = some pv ∧ w.cell? ⟨c.blk, 6, none⟩ = some nx ∧ ∀ i, w.frozen? ⟨c.blk, i, none⟩ = false :=
  ⟨h.cell (i := 0) (by omega), h.cell (i := 1) (by omega), h.cell (i := 2) (by omega), h.cell (i := 3) (by omega), h.cell (i := 4) (by omega), h.cell (i := 5) (by omega), h.cell (i := 6) (by omega), fun i => h.frozen i⟩
theorem rq_cells {w : World} {r : Nat} {mo : Option Nat} {hd tl : Value} {now peak : Int} (h : Rq w r mo hd tl now peak) :
    w.cell? ⟨r, 0, none⟩ = some (.map mo) ∧ w.cell? ⟨r, 1, none⟩ = some hd ∧ w.cell? ⟨r, 2, none⟩ = some tl ∧ w.cell? ⟨r, 3, none⟩ = some (.int .i64 now) ∧ w.cell? ⟨r, 4, none⟩ = some (.int .i64 peak) ∧ ∀ i, w.frozen? ⟨r, i, none⟩ = false :=
  ⟨h.cell (i := 0) (by omega), h.cell (i := 1) (by omega), h.cell (i := 2) (by omega), h.cell (i := 3) (by omega), h.cell (i := 4) (by omega), fun i => h.frozen i⟩
theorem node_rq_ne {w : World} {c : Cl} {pv nx : Value} {r : Nat} {mo : Option Nat} {hd tl : Value} {now peak : Int} (h : Node w c pv nx) (h' : Rq w r mo hd tl now peak) : c.blk ≠ r := by
  obtain ⟨a, h1, _⟩ := h
  obtain ⟨b, h2, _⟩ := h'
  intro e
  rw [e, h2] at h1
  cases h1
end Go.Proofs.Qxb6600971a
