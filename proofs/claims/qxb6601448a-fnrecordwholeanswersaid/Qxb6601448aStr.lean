/-
  Slices of strings, of numbers, of slices, as they lie. No program is walked here.
-/
import Derived.Test.Qxb6601448aMem
import Derived.WalkKit
namespace Go.Proofs.Qxb6601448a
open Go.RowKit

theorem hidC {P : Program} {f : FuncId} {a : Array Value} {w : World} {Q : Ending → World → Prop} (h : Calls P f a w Q) : Hid (Calls P f a w Q) := h

theorem below_grown {w w' : World} (h : w.grownBy w' none) : Below w.heap.size w w' := (Below.refl _ _).grown h (Nat.le_refl _) (by simp)
theorem grown_below {w w' : World} (h : Below w.heap.size w w') : w.grownBy w' none := ⟨h.os, h.tape, h.output, h.size, fun b hb _ => h.block b hb⟩

/-- A slice whose cells hold these values. -/
def Cells (w : World) (a : Option Addr) (xs : List Value) : Prop :=
  xs = [] ∨ ∃ b off, a = some ⟨b, off, none⟩ ∧ ∀ i x, xs[i]? = some x → w.cell? ⟨b, off + i, none⟩ = some x

theorem Cells.below {w w' : World} {a : Option Addr} {xs : List Value} {B : Nat} (h : Cells w a xs) (hb : Below B w w') (hB : w.heap.size ≤ B) : Cells w' a xs := by
  rcases h with h | ⟨b, off, rfl, hc⟩
  · exact .inl h
  · refine .inr ⟨b, off, rfl, fun i x hx => ?_⟩
    have h1 := hc i x hx
    have hlt := World.block_lt_of_cell? w _ h1
    exact (hb.cell (Nat.lt_of_lt_of_le hlt hB)).trans h1

theorem Cells.grown {w w' : World} {a : Option Addr} {xs : List Value} (h : Cells w a xs) (hb : w.grownBy w' none) : Cells w' a xs := h.below (below_grown hb) (Nat.le_refl _)

theorem Cells.addr {w : World} {a : Option Addr} {xs : List Value} {i : Nat} {x : Value} (h : Cells w a xs) (hi : xs[i]? = some x) : ∃ b off, a = some ⟨b, off, none⟩ ∧ w.cell? ⟨b, off + i, none⟩ = some x := by
  rcases h with rfl | ⟨b, off, rfl, hc⟩
  · simp at hi
  · exact ⟨b, off, rfl, hc i x hi⟩

def enS (ss : List ByteArray) : List Value := ss.map Value.string
def enW (ns : List Int) : List Value := ns.map (Value.int .u64)

theorem enS_get {ss : List ByteArray} {i : Nat} {s : ByteArray} (h : ss[i]? = some s) : (enS ss)[i]? = some (.string s) := by rw [enS, List.getElem?_map, h]; rfl
theorem enW_get {ns : List Int} {i : Nat} {n : Int} (h : ns[i]? = some n) : (enW ns)[i]? = some (.int .u64 n) := by rw [enW, List.getElem?_map, h]; rfl

/-- A slice of slices of strings, each readable. -/
def Nest (w : World) (a : Option Addr) (sss : List (Option Addr × Nat × List ByteArray)) : Prop :=
  Cells w a (sss.map fun t => .slice t.1 t.2.2.length t.2.1) ∧ ∀ t ∈ sss, Cells w t.1 (enS t.2.2)

theorem Nest.grown {w w' : World} {a : Option Addr} {sss : List (Option Addr × Nat × List ByteArray)} (h : Nest w a sss) (hb : w.grownBy w' none) : Nest w' a sss :=
  ⟨h.1.grown hb, fun t ht => (h.2 t ht).grown hb⟩

end Go.Proofs.Qxb6601448a
