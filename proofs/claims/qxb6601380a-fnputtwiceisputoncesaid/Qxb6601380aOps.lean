/-
  The script as it lies in memory. No program is walked here.
-/
import Derived.WalkKit
import Derived.Test.Qxb6601380aMem
namespace Go.Proofs.Qxb6601380a
open Go.RowKit

theorem below_grown {w w' : World} (h : w.grownBy w' none) : Below w.heap.size w w' := (Below.refl _ _).grown h (Nat.le_refl _) (by simp)

/-- A script as it lies: three cells an operation. -/
def OpsAt (w : World) (a : Option Addr) (ops : List (ByteArray × Int × Bool)) : Prop :=
  ops = [] ∨ ∃ b off, a = some ⟨b, off, none⟩ ∧ ∀ i o, ops[i]? = some o →
    w.cell? ⟨b, off + i * 3, none⟩ = some (.string o.1) ∧ w.cell? ⟨b, off + i * 3 + 1, none⟩ = some (.int .u32 o.2.1) ∧ w.cell? ⟨b, off + i * 3 + 2, none⟩ = some (.bool o.2.2)

theorem OpsAt.below {w w' : World} {a : Option Addr} {ops : List (ByteArray × Int × Bool)} {B : Nat} (h : OpsAt w a ops) (hb : Below B w w') (hB : w.heap.size ≤ B) : OpsAt w' a ops := by
  rcases h with h | ⟨b, off, rfl, hc⟩
  · exact .inl h
  · refine .inr ⟨b, off, rfl, fun i o ho => ?_⟩
    obtain ⟨h1, h2, h3⟩ := hc i o ho
    have hlt := World.block_lt_of_cell? w _ h1
    have e : ∀ j, w'.cell? ⟨b, j, none⟩ = w.cell? ⟨b, j, none⟩ := fun j => hb.cell (Nat.lt_of_lt_of_le hlt hB)
    exact ⟨(e _).trans h1, (e _).trans h2, (e _).trans h3⟩

theorem OpsAt.grown {w w' : World} {a : Option Addr} {ops : List (ByteArray × Int × Bool)} (h : OpsAt w a ops) (hb : w.grownBy w' none) : OpsAt w' a ops := h.below (below_grown hb) (Nat.le_refl _)

theorem OpsAt.addr {w : World} {a : Option Addr} {ops : List (ByteArray × Int × Bool)} {i : Nat} {o : ByteArray × Int × Bool} (h : OpsAt w a ops) (hi : ops[i]? = some o) : ∃ b off, a = some ⟨b, off, none⟩ ∧
    w.cell? ⟨b, off + i * 3, none⟩ = some (.string o.1) ∧ w.cell? ⟨b, off + i * 3 + 1, none⟩ = some (.int .u32 o.2.1) ∧ w.cell? ⟨b, off + i * 3 + 2, none⟩ = some (.bool o.2.2) := by
  rcases h with rfl | ⟨b, off, rfl, hc⟩
  · simp at hi
  · exact ⟨b, off, rfl, hc i o hi⟩

end Go.Proofs.Qxb6601380a
