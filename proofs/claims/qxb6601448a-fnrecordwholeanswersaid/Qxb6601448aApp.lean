/-
  append onto a slice of the call's own, once more: besides the kit's law it says WHERE the new slice lies: in the old block, or in a new one. No program is walked here.
-/
import Derived.WalkKit
import Derived.Test.Qxb6601448aMem
namespace Go.Proofs.Qxb6601448a
open Go.RowKit

section
variable {P : Program} (w : World)

theorem run_append_sharp (base : Nat) (t ty e : TypeId) (i : TypeInfo) (z : Value) (size bytes : Nat) (ht : P.underlying t = some (.slice e)) (hi : P.info? e = some i) (hz : i.zero = some z)
    (hsize : i.size = size) (hby : i.bytes = bytes) (hzs : z.cells.size = size) (hsz : 0 < size)
    (v : Value) (n : Nat) (xs : List Value) (hown : w.ownsRow base e size v n xs)
    (a : Addr) (m c : Nat) (news : List Value) (hl : news.length = m * size) (hnews : ∀ j u, news[j]? = some u → w.cell? (a.add j) = some u) (h1 : ∀ u ∈ news, u.oneCell' = true)
    (h63 : n + m ≤ maxLen) (hbytes : (n + m) * bytes ≤ 140737488355328) (hbase : base ≤ w.heap.size) :
    ∃ v' w', (Builtin.append_ #[t, t] ty #[v, .slice (some a) m c]).run P w = .ok v' w' ∧ w'.ownsRow base e size v' (n + m) (xs ++ news) ∧ w.grownBy w' v.ownBlock ∧
      (∀ k, v'.ownBlock = some k → v.ownBlock = some k ∨ w.heap.size ≤ k) := by
  obtain ⟨v', w', hr, h2, h3, h4⟩ := run_append_own (P := P) w base t ty e i z size bytes ht hi hz hsize hby hzs hsz v n xs hown a m c news hl hnews h1 h63 hbytes hbase
  refine ⟨v', w', hr, h2, h3, fun k hk => ?_⟩
  have hown0 := hown
  rcases hown.2 with ⟨rfl, rfl⟩ | ⟨g, cap, cur, rfl, hbg, hg, hnc, hcm, hcs, htake⟩
  · have hx : xs = [] := List.eq_nil_of_length_eq_zero (by simpa using hown.1)
    subst hx
    obtain ⟨v2, w2, hr2, k2, _, _⟩ := run_append_own (P := P) w w.heap.size t ty e i z size bytes ht hi hz hsize hby hzs hsz (.slice none 0 0) 0 [] (World.ownsRow_nil _ _ _ _) a m c news hl hnews h1 h63 hbytes (Nat.le_refl _)
    rw [hr] at hr2
    injection hr2 with e1 e2
    subst e1
    exact .inr (k2.lt k hk).1
  · by_cases hroom : n + m ≤ cap
    · obtain ⟨w2, hr2, _, _⟩ := run_append_fits (P := P) w base t ty e i size ht hi hsize g n cap xs hown0 a m c news hl hnews h1 hroom
      rw [hr] at hr2
      injection hr2 with e1 e2
      subst e1
      exact .inl hk
    · have hlen := hown.1
      subst hsize
      subst hby
      have holds : ∀ j u, xs[j]? = some u → w.cell? ((⟨g, 0, none⟩ : Addr).add j) = some u := hown0.cells (g := g) rfl
      have hr2 := run_append_grow (P := P) w t ty e i z ht hi hz ⟨g, 0, none⟩ n cap xs hlen holds a m c news hl hnews (by omega) (by simp only [maxLen] at h63; omega) (growslice_fits (by omega) hbytes)
      rw [hr] at hr2
      injection hr2 with e1 e2
      subst e1
      simp [Value.ownBlock] at hk
      exact .inr (by omega)

theorem wpList_append_sharp {ops : Array Oper} {rest : List Oper} {o : Oper} {a : Act} {Q : Exit → Act → World → Prop} (hgd : o.guard = none) (s x : Operand) (t : TypeId)
    (ho : o.op = .call { callee := .builtin .append, args := #[s, x], argTypes := #[t, t] })
    (base : Nat) (e : TypeId) (i : TypeInfo) (z : Value) (size bytes : Nat) (ht : P.underlying t = some (.slice e)) (hi : P.info? e = some i) (hz : i.zero = some z)
    (hsize : i.size = size) (hby : i.bytes = bytes) (hzs : z.cells.size = size) (hsz : 0 < size)
    (v : Value) (n : Nat) (xs : List Value) (hs : a.eval s = v) (hown : w.ownsRow base e size v n xs)
    (ad : Addr) (m c : Nat) (news : List Value) (hx : a.eval x = .slice (some ad) m c) (hl : news.length = m * size) (hnews : ∀ j u, news[j]? = some u → w.cell? (ad.add j) = some u) (h1 : ∀ u ∈ news, u.oneCell' = true)
    (h63 : n + m ≤ maxLen) (hbytes : (n + m) * bytes ≤ 140737488355328) (hbase : base ≤ w.heap.size)
    (h : ∀ v' w', w'.ownsRow base e size v' (n + m) (xs ++ news) → w.grownBy w' v.ownBlock → (∀ k, v'.ownBlock = some k → v.ownBlock = some k ∨ w.heap.size ≤ k) → wpList P ops Q rest (a.put o.dst v') w') : wpList P ops Q (o :: rest) a w := by
  refine wpList_plain hgd fun K hK => ?_
  obtain ⟨v', w', hr, h2, h3, h4⟩ := run_append_sharp (P := P) w base t o.type e i z size bytes ht hi hz hsize hby hzs hsz v n xs hown ad m c news hl hnews h1 h63 hbytes hbase
  unfold Oper.wp execOp
  simp only [ho, resolve, invoke, builtin, Sem.run_bind, Sem.run_pure, Result.andThen_ok, List.map_toArray, List.map_cons, List.map_nil, hs, hx, hr]
  exact hK _ _ (h v' w' h2 h3 h4)
end

/-- What a chain of appends onto one slice leaves: old blocks but the slice's own are as they were; the slice lies in its old block or in a new one. -/
structure Kept (w w' : World) (v v' : Value) : Prop where
  grown : w.grownBy w' v.ownBlock
  place : ∀ k, v'.ownBlock = some k → v.ownBlock = some k ∨ w.heap.size ≤ k

theorem Kept.refl (w : World) (v : Value) : Kept w w v v := ⟨World.grownBy.refl _ _, fun _ h => .inl h⟩

theorem Kept.trans {w1 w2 w3 : World} {v1 v2 v3 : Value} (h : Kept w1 w2 v1 v2) (k : Kept w2 w3 v2 v3) : Kept w1 w3 v1 v3 := by
  refine ⟨⟨k.grown.os.trans h.grown.os, k.grown.tape.trans h.grown.tape, k.grown.output.trans h.grown.output, Nat.le_trans h.grown.size k.grown.size, fun i hi hne => ?_⟩, fun q hq => ?_⟩
  · have := h.grown.size
    rw [k.grown.block i (by omega) (fun e => ?_), h.grown.block i hi hne]
    rcases h.place i e.symm with h1 | h1
    · exact hne h1.symm
    · omega
  · have := h.grown.size
    rcases k.place q hq with h1 | h1
    · exact h.place q h1
    · exact .inr (by omega)

theorem Kept.alloc {w w' : World} {v v' : Value} (h : Kept w w' v v') (o : Obj) : Kept w (w'.alloc o) v v' :=
  h.trans ⟨World.grownBy_alloc _ _ _, fun _ h => .inl h⟩

theorem Kept.below {w w' : World} {v v' : Value} {B : Nat} {a : World} (h : Kept w w' v v') (hb : Below B a w) (hB : B ≤ w.heap.size) (hv : ∀ k, v.ownBlock = some k → B ≤ k) : Below B a w' :=
  hb.grown h.grown hB hv

theorem Kept.own {w w' : World} {v v' u : Value} {base : Nat} {e : TypeId} {size n : Nat} {xs : List Value} (h : Kept w w' v v') (ho : w.ownsRow base e size u n xs) (hne : ∀ k, u.ownBlock = some k → v.ownBlock ≠ some k) :
    w'.ownsRow base e size u n xs := by
  refine ho.kept h.grown ?_
  cases hu : u.ownBlock with
  | none => exact .inl rfl
  | some k => exact .inr (fun e => hne k hu e.symm)

theorem Kept.apart {w w' : World} {v v' u : Value} {base : Nat} {e : TypeId} {size n : Nat} {xs : List Value} (h : Kept w w' v v') (ho : w.ownsRow base e size u n xs) (hne : ∀ k, u.ownBlock = some k → v.ownBlock ≠ some k) :
    ∀ k, u.ownBlock = some k → v'.ownBlock ≠ some k := by
  intro k hk hv
  rcases h.place k hv with h1 | h1
  · exact hne k hk h1
  · have := (ho.lt k hk).2
    omega

end Go.Proofs.Qxb6601448a
