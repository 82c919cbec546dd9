/-
  Memory words for this seat: a block of integers known whole ('RowAt'), and small laws on it. No program is walked here.
-/
import Derived.WalkKit
namespace Go.Proofs.Qxb6601318a
open Go.RowKit

/-- Block g holds just the integers zs (kind k, element type e); it is not frozen. -/
def RowAt (w : World) (g : Nat) (e : TypeId) (k : IntKind) (zs : List Int) : Prop :=
  w.heap[g]? = some (.cells (zs.map (Value.int k)).toArray e (0, 0))

theorem RowAt.lt {w : World} {g : Nat} {e : TypeId} {k : IntKind} {zs : List Int} (h : RowAt w g e k zs) : g < w.heap.size :=
  (Array.getElem?_eq_some_iff.1 h).1

theorem RowAt.cell {w : World} {g : Nat} {e : TypeId} {k : IntKind} {zs : List Int} (h : RowAt w g e k zs) {i : Nat} (hi : i < zs.length) :
    w.cell? ⟨g, i, none⟩ = some (.int k (zs.getD i 0)) := by
  rw [cell_of_row w g i _ e (0, 0) h]
  simp [hi]

theorem RowAt.frozen {w : World} {g : Nat} {e : TypeId} {k : IntKind} {zs : List Int} (h : RowAt w g e k zs) (i : Nat) :
    w.frozen? ⟨g, i, none⟩ = false := frozen_of_row w g i _ e h

theorem RowAt.set {w : World} {g : Nat} {e : TypeId} {k : IntKind} {zs : List Int} (h : RowAt w g e k zs) (i : Nat) (x : Int) :
    RowAt (w.setCell ⟨g, i, none⟩ (.int k x)) g e k (zs.set i x) := by
  have := heap_setCell_same w g i _ e (.int k x) h
  unfold RowAt
  rw [this]
  simp

theorem RowAt.other {w : World} {g : Nat} {e : TypeId} {k : IntKind} {zs : List Int} (h : RowAt w g e k zs) {a : Addr} (ha : g ≠ a.block) (u : Value) :
    RowAt (w.setCell a u) g e k zs := by
  unfold RowAt
  rw [Below.heap_setCell _ _ _ _ ha]
  exact h

theorem RowAt.alloc {w : World} {g : Nat} {e : TypeId} {k : IntKind} {zs : List Int} (h : RowAt w g e k zs) (o : Obj) : RowAt (w.alloc o) g e k zs := by
  unfold RowAt
  rw [Below.heap_alloc _ _ _ h.lt]
  exact h

theorem RowAt.drew {w : World} {g : Nat} {e : TypeId} {k : IntKind} {zs : List Int} (h : RowAt w g e k zs) : RowAt w.drew g e k zs := h

theorem RowAt.below {B : Nat} {w w' : World} {g : Nat} {e : TypeId} {k : IntKind} {zs : List Int} (h : RowAt w g e k zs) (hb : Below B w w') (hg : g < B) : RowAt w' g e k zs := by
  unfold RowAt
  rw [hb.block g hg]
  exact h

theorem RowAt.grown {w w' : World} {row : Option Nat} {g : Nat} {e : TypeId} {k : IntKind} {zs : List Int} (h : RowAt w g e k zs) (hb : w.grownBy w' row) (hg : some g ≠ row) : RowAt w' g e k zs := by
  unfold RowAt
  rw [hb.block g h.lt hg]
  exact h

/-- What is told of a slice of integers that came in. -/
def IsRow (k : IntKind) (w : World) (a : Option Addr) (len cap : Nat) (zs : List Int) : Prop :=
  (a = none ∧ len = 0 ∧ cap = 0 ∧ zs = []) ∨
  ∃ x, a = some x ∧ len ≤ cap ∧ cap ≤ maxLen ∧ zs.length = cap ∧ (∀ i, i < zs.length → w.cell? (x.add i) = some (.int k (zs.getD i 0))) ∧ ∀ n ∈ zs, (Lit.int k n).wf = true

end Go.Proofs.Qxb6601318a
