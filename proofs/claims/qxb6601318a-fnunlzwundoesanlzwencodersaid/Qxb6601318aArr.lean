/-
  Local arrays: a variable of array type laid in a new block of zeros. A law for the walk, and the three types of unlzw.
-/
import Derived.Test.Qxb6601318aW1
namespace Go.Proofs.Qxb6601318a
open Go.RowKit

theorem wpList_alloc_zero {P : Program} (w : World) {ops : Array Oper} {rest : List Oper} {o : Oper} {a : Act} {Q : Exit → Act → World → Prop}
    (hg : o.guard = none) (t : TypeId) (hop : o.op = Op.alloc t) (i : TypeInfo) (z : Value) (Z : Array Value) (hi : P.info? t = some i) (hz : i.zero = some z) (hZ : z.cells = Z)
    (hK : wpList P ops Q rest (a.put o.dst (.pointer (some ⟨w.heap.size, 0, none⟩))) (w.alloc (.cells Z t))) : wpList P ops Q (o :: rest) a w := by
  refine wpList_plain hg fun K hK' => ?_
  subst hZ
  unfold Oper.wp
  simp [execOp, hop, Instr.alloc, zeroValue, typeInfo, hi, hz, newVar, newRow, Result.andThen]
  exact hK' _ _ hK

def zeroRow (k : IntKind) : Array Value := ((List.replicate 4096 (0 : Int)).map (Value.int k)).toArray

theorem Try.zero39 : ((Try.prog.info? 39).bind (·.zero)).map (·.cells) = some (zeroRow .u16) := by kernel_rfl
theorem Try.zero40 : ((Try.prog.info? 40).bind (·.zero)).map (·.cells) = some (zeroRow .u8) := by kernel_rfl
theorem Try.zero41 : ((Try.prog.info? 41).bind (·.zero)).map (·.cells) = some (zeroRow .i64) := by kernel_rfl

theorem zero_parts {P : Program} {t : TypeId} {Z : Array Value} (h : ((P.info? t).bind (·.zero)).map (·.cells) = some Z) : ∃ i z, P.info? t = some i ∧ i.zero = some z ∧ z.cells = Z := by
  obtain ⟨z, hz, hc⟩ := Option.map_eq_some_iff.1 h
  obtain ⟨i, hi, hiz⟩ := Option.bind_eq_some_iff.1 hz
  exact ⟨i, z, hi, hiz, hc⟩

end Go.Proofs.Qxb6601318a
