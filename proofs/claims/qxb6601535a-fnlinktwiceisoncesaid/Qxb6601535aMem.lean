/-
  Memory words for this seat: a block known whole; a row of integers; the options' block. No program is walked here.
-/
import Derived.WalkKit
import Derived.Deep.Draws
namespace Go.Proofs.Qxb6601535a
open Go.RowKit

/-- Block g holds just the cells l; it is not frozen. -/
def BlockAt (w : World) (g : Nat) (e : TypeId) (l : List Value) : Prop := w.heap[g]? = some (.cells l.toArray e (0, 0))

variable {w w' : World} {g : Nat} {e : TypeId} {l : List Value}

theorem BlockAt.lt (h : BlockAt w g e l) : g < w.heap.size := (Array.getElem?_eq_some_iff.1 h).1

theorem BlockAt.cell (h : BlockAt w g e l) (i : Nat) : w.cell? ⟨g, i, none⟩ = l[i]? := by
  rw [cell_of_row w g i _ e (0, 0) h]; simp

theorem BlockAt.frozen (h : BlockAt w g e l) (i : Nat) : w.frozen? ⟨g, i, none⟩ = false := frozen_of_row w g i _ e h

theorem BlockAt.set (h : BlockAt w g e l) (i : Nat) (u : Value) : BlockAt (w.setCell ⟨g, i, none⟩ u) g e (l.set i u) := by
  have := heap_setCell_same w g i _ e u h
  unfold BlockAt
  rw [this]
  simp

theorem BlockAt.other (h : BlockAt w g e l) {a : Addr} (ha : g ≠ a.block) (u : Value) : BlockAt (w.setCell a u) g e l := by
  unfold BlockAt
  rw [Below.heap_setCell _ _ _ _ ha]
  exact h

theorem BlockAt.alloc (h : BlockAt w g e l) (o : Obj) : BlockAt (w.alloc o) g e l := by
  unfold BlockAt
  rw [Below.heap_alloc _ _ _ h.lt]
  exact h

theorem BlockAt.drew (h : BlockAt w g e l) : BlockAt w.drew g e l := h

theorem BlockAt.below {B : Nat} (h : BlockAt w g e l) (hb : Below B w w') (hg : g < B) : BlockAt w' g e l := by
  unfold BlockAt
  rw [hb.block g hg]
  exact h

theorem BlockAt.grown {row : Option Nat} (h : BlockAt w g e l) (hb : w.grownBy w' row) (hg : some g ≠ row) : BlockAt w' g e l := by
  unfold BlockAt
  rw [hb.block g h.lt hg]
  exact h

theorem blockAt_new (w : World) (e : TypeId) (l : List Value) : BlockAt (w.alloc (.cells l.toArray e)) w.heap.size e l := heap_alloc_new w _

/-- A new own block as an owned row, known whole. -/
theorem blockAt_own {base n : Nat} (h : w.ownsRow base e 1 (.slice (some ⟨g, 0, none⟩) n n) n l) : BlockAt w g e l := by
  obtain ⟨h1, h2⟩ := h
  rcases h2 with ⟨h', _⟩ | ⟨g', cap', cur, h', _, hg, _, _, hcs, htake⟩
  · simp at h'
  · simp only [Value.slice.injEq, Option.some.injEq, Addr.mk.injEq, and_true, true_and] at h'
    obtain ⟨rfl, rfl⟩ := h'
    have : cur.toList = l := by rw [← htake]; exact (List.take_of_length_le (by simp; omega)).symm
    unfold BlockAt
    rw [hg, ← this]

theorem wpList_alloc_zero {P : Program} (w : World) {ops : Array Oper} {rest : List Oper} {o : Oper} {a : Act} {Q : Exit → Act → World → Prop}
    (hg : o.guard = none) (t : TypeId) (hop : o.op = Op.alloc t) (i : TypeInfo) (z : Value) (Z : Array Value) (hi : P.info? t = some i) (hz : i.zero = some z) (hZ : z.cells = Z)
    (hK : wpList P ops Q rest (a.put o.dst (.pointer (some ⟨w.heap.size, 0, none⟩))) (w.alloc (.cells Z t))) : wpList P ops Q (o :: rest) a w := by
  refine wpList_plain hg fun K hK' => ?_
  subst hZ
  unfold Oper.wp
  simp [execOp, hop, Instr.alloc, zeroValue, typeInfo, hi, hz, newVar, newRow, Result.andThen]
  exact hK' _ _ hK

theorem zero_parts {P : Program} {t : TypeId} {Z : Array Value} (h : ((P.info? t).bind (·.zero)).map (·.cells) = some Z) : ∃ i z, P.info? t = some i ∧ i.zero = some z ∧ z.cells = Z := by
  obtain ⟨z, hz, hc⟩ := Option.map_eq_some_iff.1 h
  obtain ⟨i, hi, hiz⟩ := Option.bind_eq_some_iff.1 hz
  exact ⟨i, z, hi, hiz, hc⟩

/-- Old blocks but row are as they were. -/
theorem grown_trans {w1 w2 w3 : World} {row : Option Nat} (h : w1.grownBy w2 row) (k : w2.grownBy w3 row) : w1.grownBy w3 row :=
  ⟨k.os.trans h.os, k.tape.trans h.tape, k.output.trans h.output, Nat.le_trans h.size k.size, fun i hi hne => by
    have := h.size
    rw [k.block i (by omega) hne, h.block i hi hne]⟩

theorem grown_set (w : World) (g o : Nat) (u : Value) : w.grownBy (w.setCell ⟨g, o, none⟩ u) (some g) :=
  ⟨rfl, rfl, rfl, by simp [World.setCell], fun k _ hk => Below.heap_setCell _ _ _ _ (fun e => hk (by simp [e]))⟩

theorem grown_set_new {w w' : World} {row : Option Nat} (h : w.grownBy w' row) {g : Nat} (hg : w.heap.size ≤ g) (o : Nat) (u : Value) : w.grownBy (w'.setCell ⟨g, o, none⟩ u) row :=
  ⟨h.os, h.tape, h.output, by simpa [World.setCell] using h.size, fun k hk hne => by
    rw [Below.heap_setCell _ _ _ _ (by show k ≠ g; omega)]
    exact h.block k hk hne⟩

theorem grown_drewN {w w' : World} {row : Option Nat} (h : w.grownBy w' row) (n : Nat) : w.grownBy (w'.drewN n) row :=
  ⟨h.os, h.tape, h.output, h.size, h.block⟩

/-! ### The options' block: seven cells an option: the code first, the next sixth, all else nought. -/
def optCell (cs ns : List Int) (k : Nat) : Value :=
  if k % 7 = 0 then .int .u64 (cs.getD (k / 7) 0) else if k % 7 = 5 then .int .i64 (ns.getD (k / 7) 0) else .int .i64 0
def opt7 (n : Nat) (cs ns : List Int) : List Value := (List.range (n * 7)).map (optCell cs ns)

theorem opt7_len (n : Nat) (cs ns : List Int) : (opt7 n cs ns).length = n * 7 := by simp [opt7]

theorem opt7_at (n : Nat) (cs ns : List Int) (k : Nat) (h : k < n * 7) : (opt7 n cs ns)[k]? = some (optCell cs ns k) := by
  simp [opt7, h]

theorem getD_set (l : List Int) (i j : Nat) (a : Int) (h : i < l.length) : (l.set i a).getD j 0 = if i = j then a else l.getD j 0 := by
  simp only [List.getD_eq_getElem?_getD, List.getElem?_set]
  by_cases e : i = j
  · subst e; simp [h]
  · simp [e]

theorem opt7_code {n : Nat} {cs ns : List Int} {i : Nat} (hi : i < n) (hl : cs.length = n) (c : Int) : (opt7 n cs ns).set (i * 7) (.int .u64 c) = opt7 n (cs.set i c) ns := by
  apply List.ext_getElem?
  intro k
  rw [List.getElem?_set]
  by_cases hk : k < n * 7
  · rw [opt7_at _ _ _ _ hk, opt7_at _ _ _ _ hk, opt7_len]
    by_cases e : i * 7 = k
    · subst e
      rw [if_pos rfl, if_pos hk]
      unfold optCell
      rw [if_pos (by omega), getD_set _ _ _ _ (by omega), if_pos (by omega)]
    · rw [if_neg e]
      unfold optCell
      split
      · rw [getD_set _ _ _ _ (by omega), if_neg (by omega)]
      · rfl
  · rw [opt7_len, if_neg (by omega), List.getElem?_eq_none (by rw [opt7_len]; omega), List.getElem?_eq_none (by rw [opt7_len]; omega)]

theorem opt7_next {n : Nat} {cs ns : List Int} {i : Nat} (hi : i < n) (hl : ns.length = n) (c : Int) : (opt7 n cs ns).set (i * 7 + 5) (.int .i64 c) = opt7 n cs (ns.set i c) := by
  apply List.ext_getElem?
  intro k
  rw [List.getElem?_set]
  by_cases hk : k < n * 7
  · rw [opt7_at _ _ _ _ hk, opt7_at _ _ _ _ hk, opt7_len]
    by_cases e : i * 7 + 5 = k
    · subst e
      rw [if_pos rfl, if_pos hk]
      unfold optCell
      rw [if_neg (by omega), if_pos (by omega), getD_set _ _ _ _ (by omega), if_pos (by omega)]
    · rw [if_neg e]
      unfold optCell
      split
      · rfl
      · split
        · rw [getD_set _ _ _ _ (by omega), if_neg (by omega)]
        · rfl
  · rw [opt7_len, if_neg (by omega), List.getElem?_eq_none (by rw [opt7_len]; omega), List.getElem?_eq_none (by rw [opt7_len]; omega)]

theorem optCell_code (cs ns : List Int) (i : Nat) : optCell cs ns (i * 7) = .int .u64 (cs.getD i 0) := by
  unfold optCell; rw [if_pos (by omega), show i * 7 / 7 = i by omega]
theorem optCell_next (cs ns : List Int) (i : Nat) : optCell cs ns (i * 7 + 5) = .int .i64 (ns.getD i 0) := by
  unfold optCell; rw [if_neg (by omega), if_pos (by omega), show (i * 7 + 5) / 7 = i by omega]
theorem optCell_rest (cs ns : List Int) (i j : Nat) (h : j = 1 ∨ j = 2 ∨ j = 3 ∨ j = 4 ∨ j = 6) : optCell cs ns (i * 7 + j) = .int .i64 0 := by
  unfold optCell; rw [if_neg (by omega), if_neg (by omega)]

end Go.Proofs.Qxb6601535a
