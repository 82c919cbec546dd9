/-
  Memory words for this seat: a block known whole; rows; what append, copy and clear do to a row (elements of whatever size). No program is walked here.
-/
import Derived.WalkKit
import Derived.Deep.Draws
import Derived.Deep.RegionLaw
import Derived.Deep.Onto
namespace Go.Proofs.Qxb6601448a
open Go.RowKit

/-- Block g holds just the cells l; it is not frozen. -/
def BlockAt (w : World) (g : Nat) (e : TypeId) (l : List Value) : Prop := w.heap[g]? = some (.cells l.toArray e (0, 0))

section
variable {w w' : World} {g : Nat} {e : TypeId} {l : List Value}

theorem BlockAt.lt (h : BlockAt w g e l) : g < w.heap.size := (Array.getElem?_eq_some_iff.1 h).1

theorem BlockAt.cell (h : BlockAt w g e l) (i : Nat) : w.cell? ⟨g, i, none⟩ = l[i]? := by
  rw [cell_of_row w g i _ e (0, 0) h]; simp

theorem BlockAt.frozen (h : BlockAt w g e l) (i : Nat) : w.frozen? ⟨g, i, none⟩ = false := frozen_of_row w g i _ e h

theorem BlockAt.set (h : BlockAt w g e l) (i : Nat) (u : Value) : BlockAt (w.setCell ⟨g, i, none⟩ u) g e (l.set i u) := by
  have := heap_setCell_same w g i _ e u h
  unfold BlockAt
  rw [this]
  simp

theorem BlockAt.other (h : BlockAt w g e l) {a : Addr} (ha : g ≠ a.block) (u : Value) : BlockAt (w.setCell a u) g e l := by
  unfold BlockAt
  rw [Below.heap_setCell _ _ _ _ ha]
  exact h

theorem BlockAt.alloc (h : BlockAt w g e l) (o : Obj) : BlockAt (w.alloc o) g e l := by
  unfold BlockAt
  rw [Below.heap_alloc _ _ _ h.lt]
  exact h

theorem BlockAt.below {B : Nat} (h : BlockAt w g e l) (hb : Below B w w') (hg : g < B) : BlockAt w' g e l := by
  unfold BlockAt
  rw [hb.block g hg]
  exact h

theorem BlockAt.grown {row : Option Nat} (h : BlockAt w g e l) (hb : w.grownBy w' row) (hg : some g ≠ row) : BlockAt w' g e l := by
  unfold BlockAt
  rw [hb.block g h.lt hg]
  exact h

theorem BlockAt.same (h : BlockAt w g e l) (hb : w'.heap[g]? = w.heap[g]?) : BlockAt w' g e l := by
  unfold BlockAt
  rw [hb]
  exact h

theorem blockAt_new (w : World) (e : TypeId) (l : List Value) : BlockAt (w.alloc (.cells l.toArray e)) w.heap.size e l := heap_alloc_new w _

theorem BlockAt.row (h : BlockAt w g e l) (l' : List Value) : BlockAt (w.setRow g l'.toArray) g e l' := setRow_heap w g _ _ e _ h

theorem grown_row (w : World) (g : Nat) (c : Array Value) : w.grownBy (w.setRow g c) (some g) :=
  ⟨rfl, rfl, rfl, by simp, fun k _ hk => setRow_other w g k _ (fun e => hk (by simp [e]))⟩

theorem grown_set (w : World) (g o : Nat) (u : Value) : w.grownBy (w.setCell ⟨g, o, none⟩ u) (some g) :=
  ⟨rfl, rfl, rfl, by simp [World.setCell], fun k _ hk => Below.heap_setCell _ _ _ _ (fun e => hk (by simp [e]))⟩

/-- Old blocks but row are as they were, step after step. -/
theorem grown_trans {w1 w2 w3 : World} {row : Option Nat} (h : w1.grownBy w2 row) (k : w2.grownBy w3 row) : w1.grownBy w3 row :=
  ⟨k.os.trans h.os, k.tape.trans h.tape, k.output.trans h.output, Nat.le_trans h.size k.size, fun i hi hne => by
    have := h.size
    rw [k.block i (by omega) hne, h.block i hi hne]⟩

theorem grown_drewN {w w' : World} {row : Option Nat} (h : w.grownBy w' row) (n : Nat) : w.grownBy (w'.drewN n) row :=
  ⟨h.os, h.tape, h.output, h.size, h.block⟩
theorem grown_drew {w w' : World} {row : Option Nat} (h : w.grownBy w' row) : w.grownBy w'.drew row :=
  ⟨h.os, h.tape, h.output, h.size, h.block⟩
end

/-- An owned row laid open: nil, or a block known whole. -/
theorem own_open {w : World} {base : Nat} {e : TypeId} {size : Nat} {v : Value} {n : Nat} {xs : List Value} (h : w.ownsRow base e size v n xs) :
    xs.length = n * size ∧ ((v = .slice none 0 0 ∧ n = 0 ∧ xs = []) ∨
    ∃ g cap rest, v = .slice (some ⟨g, 0, none⟩) n cap ∧ base ≤ g ∧ n ≤ cap ∧ cap ≤ maxLen ∧ rest.length = cap * size - n * size ∧ BlockAt w g e (xs ++ rest)) := by
  refine ⟨h.1, ?_⟩
  rcases h.2 with ⟨rfl, rfl⟩ | ⟨g, cap, cur, rfl, hb, hg, hnc, hcm, hcs, htake⟩
  · exact .inl ⟨rfl, rfl, List.eq_nil_of_length_eq_zero (by simpa using h.1)⟩
  · refine .inr ⟨g, cap, cur.toList.drop (n * size), rfl, hb, hnc, hcm, by rw [List.length_drop, Array.length_toList, hcs], ?_⟩
    unfold BlockAt
    rw [hg, ← htake, List.take_append_drop]

theorem own_shut {w : World} {base : Nat} {e : TypeId} {size : Nat} {g n cap : Nat} {xs rest : List Value} (hl : xs.length = n * size) (hb : base ≤ g) (hnc : n ≤ cap) (hcm : cap ≤ maxLen) (hr : rest.length = cap * size - n * size)
    (hB : BlockAt w g e (xs ++ rest)) : w.ownsRow base e size (.slice (some ⟨g, 0, none⟩) n cap) n xs := by
  refine ⟨hl, .inr ⟨g, cap, (xs ++ rest).toArray, rfl, hb, hB, hnc, hcm, ?_, ?_⟩⟩
  · have : n * size ≤ cap * size := Nat.mul_le_mul_right _ hnc
    simp [hl, hr]; omega
  · rw [← hl]; simp

section
variable {P : Program}

theorem run_copy_rowS (w : World) (dT sT ty elem : TypeId) (g o dLen dCap : Nat) (a : Addr) (sLen sCap : Nat) (cur : List Value) (t : TypeId) (cs : List Value) (i : TypeInfo) (size : Nat)
    (hu : P.underlying dT = some (.slice elem)) (hi : P.info? elem = some i) (hs : i.size = size)
    (hg : BlockAt w g t cur) (hn : cs.length = Nat.min sLen dLen * size)
    (hsrc : ∀ j v, cs[j]? = some v → w.cell? (a.add j) = some v) (hfit : o + cs.length ≤ cur.length) (h1 : ∀ v ∈ cs, v.oneCell' = true) :
    (Builtin.copy_ #[dT, sT] ty #[.slice (some ⟨g, o, none⟩) dLen dCap, .slice (some a) sLen sCap]).run P w =
      .ok (goInt (Nat.min sLen dLen)) (w.setRow g (cur.take o ++ cs ++ cur.drop (o + cs.length)).toArray) := by
  subst hs
  have hf := run_firstCells_some (P := P) w i.size (Nat.min sLen dLen) a sLen sCap cs hn hsrc
  have hst := run_storeCells_at P g o t cs 0 cur.toArray w hg (by simpa using hfit) h1
  simp only [Nat.add_zero] at hst
  simp [Builtin.copy_, run_underlying hu, Builtin.lenOf, sizeOf, typeInfo, hi, hf, hst]

theorem run_clear_rowS (w : World) (T ty elem : TypeId) (g o n c : Nat) (cur : List Value) (t : TypeId) (i : TypeInfo) (z : Value) (hu : P.underlying T = some (.slice elem)) (hi : P.info? elem = some i) (hz : i.zero = some z)
    (hg : BlockAt w g t cur) (hn : 0 < n) (hfit : o + n * z.cells.size ≤ cur.length) (h1 : ∀ v ∈ (Builtin.zeroCells z.cells n).toList, v.oneCell' = true) :
    (Builtin.clear_ #[T] ty #[.slice (some ⟨g, o, none⟩) n c]).run P w =
      .ok (.tuple #[]) (w.setRow g (cur.take o ++ (Builtin.zeroCells z.cells n).toList ++ cur.drop (o + n * z.cells.size)).toArray) := by
  have hl : (Builtin.zeroCells z.cells n).toList.length = n * z.cells.size := by rw [Array.length_toList, size_zeroCells]
  have hst := run_storeCells_at P g o t (Builtin.zeroCells z.cells n).toList 0 cur.toArray w hg (by rw [hl]; simpa using hfit) h1
  rw [hl] at hst
  simp only [Nat.add_zero] at hst
  obtain ⟨m, rfl⟩ : ∃ m, n = m + 1 := ⟨n - 1, by omega⟩
  simp [Builtin.clear_, run_underlying hu, zeroValue, typeInfo, hi, hz, hst]

/-- An operation whose run is known, as one step of a region that draws. -/
theorem step_known {ops : Array Oper} {o : Oper} {a : Act} {w : World} {K : Act → World → Prop} {Q : Exit → Act → World → Prop} {E : Prop}
    (hg : o.guard = none) {v' : Value} {w' : World} (hr : (execOp a.eval o).run P w = .ok (.value v') w') (hK : K (a.put o.dst v') w') :
    if Region.wanted o (yielded ops a.tmps) = true then Oper.wp P o a w K Q else E := by
  have hw : Region.wanted o (yielded ops a.tmps) = true := by simp [Region.wanted, hg]
  rw [if_pos hw]
  unfold Oper.wp
  rw [hr, Oper.upon_value]
  exact hK

theorem wpList_known {ops : Array Oper} {rest : List Oper} {o : Oper} {a : Act} {w : World} {Q : Exit → Act → World → Prop} (hg : o.guard = none)
    {v' : Value} {w' : World} (hr : (execOp a.eval o).run P w = .ok (.value v') w') (h : wpList P ops Q rest (a.put o.dst v') w') : wpList P ops Q (o :: rest) a w := by
  refine wpList_plain hg fun K hK => ?_
  unfold Oper.wp
  rw [hr, Oper.upon_value]
  exact hK _ _ h

theorem exec_append {a : Act} {o : Oper} {w : World} (s x : Operand) (t t' : TypeId) (ho : o.op = .call { callee := .builtin .append, args := #[s, x], argTypes := #[t, t'] }) {vs vx v' : Value} {w' : World}
    (hs : a.eval s = vs) (hx : a.eval x = vx) (hr : (Builtin.append_ #[t, t'] o.type #[vs, vx]).run P w = .ok v' w') : (execOp a.eval o).run P w = .ok (.value v') w' := by
  simp [execOp, ho, resolve, invoke, builtin, hs, hx, hr, Result.andThen]

theorem exec_copy {a : Act} {o : Oper} {w : World} (s x : Operand) (t t' : TypeId) (ho : o.op = .call { callee := .builtin .copy, args := #[s, x], argTypes := #[t, t'] }) {vs vx v' : Value} {w' : World}
    (hs : a.eval s = vs) (hx : a.eval x = vx) (hr : (Builtin.copy_ #[t, t'] o.type #[vs, vx]).run P w = .ok v' w') : (execOp a.eval o).run P w = .ok (.value v') w' := by
  simp [execOp, ho, resolve, invoke, builtin, hs, hx, hr, Result.andThen]

theorem exec_clear {a : Act} {o : Oper} {w : World} (s : Operand) (t : TypeId) (ho : o.op = .call { callee := .builtin .clear, args := #[s], argTypes := #[t] }) {vs v' : Value} {w' : World}
    (hs : a.eval s = vs) (hr : (Builtin.clear_ #[t] o.type #[vs]).run P w = .ok v' w') : (execOp a.eval o).run P w = .ok (.value v') w' := by
  simp [execOp, ho, resolve, invoke, builtin, hs, hr, Result.andThen]

theorem wpList_clear {ops : Array Oper} {rest : List Oper} {dst : Option Tmp} {type : TypeId} {pos : String} {after : Array Edge} {a : Act} {w : World} {Q : Exit → Act → World → Prop} (s : Operand) (t : TypeId) {vs v' : Value} {w' : World}
    (hs : a.eval s = vs) (hr : ∀ ty, (Builtin.clear_ #[t] ty #[vs]).run P w = .ok v' w') (h : wpList P ops Q rest (a.put dst v') w') :
    wpList P ops Q ({ dst := dst, op := .call { callee := .builtin .clear, args := #[s], argTypes := #[t] }, type := type, pos := pos, after := after, guard := none } :: rest) a w :=
  wpList_known rfl (exec_clear s t rfl hs (hr _)) h

theorem wpList_copyK {ops : Array Oper} {rest : List Oper} {dst : Option Tmp} {type : TypeId} {pos : String} {after : Array Edge} {a : Act} {w : World} {Q : Exit → Act → World → Prop} (s x : Operand) (t t' : TypeId) {vs vx v' : Value} {w' : World}
    (hs : a.eval s = vs) (hx : a.eval x = vx) (hr : ∀ ty, (Builtin.copy_ #[t, t'] ty #[vs, vx]).run P w = .ok v' w') (h : wpList P ops Q rest (a.put dst v') w') :
    wpList P ops Q ({ dst := dst, op := .call { callee := .builtin .copy, args := #[s, x], argTypes := #[t, t'] }, type := type, pos := pos, after := after, guard := none } :: rest) a w :=
  wpList_known rfl (exec_copy s x t t' rfl hs hx (hr _)) h

theorem wpList_appendK {ops : Array Oper} {rest : List Oper} {dst : Option Tmp} {type : TypeId} {pos : String} {after : Array Edge} {a : Act} {w : World} {Q : Exit → Act → World → Prop} (s x : Operand) (t t' : TypeId) {vs vx v' : Value} {w' : World}
    (hs : a.eval s = vs) (hx : a.eval x = vx) (hr : ∀ ty, (Builtin.append_ #[t, t'] ty #[vs, vx]).run P w = .ok v' w') (h : wpList P ops Q rest (a.put dst v') w') :
    wpList P ops Q ({ dst := dst, op := .call { callee := .builtin .append, args := #[s, x], argTypes := #[t, t'] }, type := type, pos := pos, after := after, guard := none } :: rest) a w :=
  wpList_known rfl (exec_append s x t t' rfl hs hx (hr _)) h
end

end Go.Proofs.Qxb6601448a
