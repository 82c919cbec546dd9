/-
  A region that draws its order and whose last operation, a store, waits for all others: what is read ahead of the store need not hold behind it.
-/
import Derived.OrdersHeld
import Derived.WalkKit
namespace Go.Proofs.Qxb6601448a
open Go Go.RowKit

section
variable {P : Program} {ops : Array Oper} {Q : Exit → Act → World → Prop} {md : Region.Mode} {S : World → Prop} {last : Nat}

/-- Whatever order is picked; S holds behind every operation but the last. -/
def AnyL (P : Program) (md : Region.Mode) (ops : Array Oper) (Q : Exit → Act → World → Prop) (S : World → Prop) (last : Nat) : Nat → Array Bool → Act → World → Prop
  | 0, listed, a, w => Region.ready md ops listed = [] ∧ Q .normal a w
  | fuel + 1, listed, a, w =>
    (Region.ready md ops listed = [] → Q .normal a w) ∧
    ∀ i ∈ Region.ready md ops listed, wpOp P ops Q i (fun a' w' => (i = last ∨ S w') ∧ AnyL P md ops Q S last fuel (listed.setIfInBounds i true) a' w') a w

theorem AnyL.any : ∀ (fuel : Nat) (listed : Array Bool) (a : Act) (w : World), AnyL P md ops Q S last fuel listed a w → wpAny P md ops Q fuel listed a w
  | 0, _, _, _, h => h
  | fuel + 1, _, _, _, h => ⟨h.1, fun i hi => wpOp_mono (fun a' w' h' => AnyL.any fuel _ a' w' h'.2) (h.2 i hi)⟩

/-- The last waits for number i. -/
def waits (md : Region.Mode) (ops : Array Oper) (last i : Nat) : Bool :=
  match ops[last]? with
  | some o => o.after.any fun e => Region.binds md e && e.on == i
  | none => false

theorem waits_spec {i : Nat} {listed : Array Bool} (hw : waits md ops last i = true) (h0 : listed.getD i true = false) : last ∉ Region.ready md ops listed := by
  intro hl
  obtain ⟨_, o, ho, hall⟩ := mem_ready.1 hl
  unfold waits at hw
  rw [ho] at hw
  simp only [Array.any_eq_true, Bool.and_eq_true, beq_iff_eq] at hw
  obtain ⟨k, hk, hb, he⟩ := hw
  have h1 := hall _ (Array.getElem_mem hk) hb
  rw [he] at h1
  rcases Nat.lt_or_ge i listed.size with h' | h'
  · simp [h'] at h0 h1; rw [h0] at h1; cases h1
  · simp [Array.getElem?_eq_none h'] at h1

theorem AnyL.first {i : Nat} {oi : Oper} {v : Value} (hi : ops[i]? = some oi) (hsel : ∀ (j : Nat) (o : Oper) cs b, ops[j]? = some o → o.op ≠ .select cs b)
    (hQ : ∀ c a w, Q (.panic c) (a.put oi.dst v) w → Q (.panic c) a w) (k : Nat) (hw : waits md ops last k = true) (hki : k = i ∨ waits md ops k i = true) :
    ∀ (fuel : Nat) (listed : Array Bool) (a : Act) (w : World), listed.getD k true = false →
      (∀ j oj, ops[j]? = some oj → j ≠ i → listed.getD j true = false → (∀ e ∈ oj.after, Region.binds md e = true → e.on ≠ i) → oi.apart ops oj = true) →
      i ∈ Region.ready md ops listed → YieldsIf P ops S oi v a → S w →
      AnyL P md ops Q S last fuel (listed.setIfInBounds i true) (a.put oi.dst v) w → AnyL P md ops Q S last (fuel + 1) listed a w := by
  intro fuel
  induction fuel with
  | zero =>
    intro listed a w _ _ hr hy hS H
    refine ⟨fun h => (by rw [h] at hr; cases hr), fun j hj => ?_⟩
    by_cases hji : j = i
    · subst hji; exact hy.wpOp hi hS ⟨.inr hS, H⟩
    · have := ready_mono hj hji
      rw [H.1] at this
      cases this
  | succ fuel ih =>
    intro listed a w hk hfree hr hy hS H
    refine ⟨fun h => (by rw [h] at hr; cases hr), fun j hj => ?_⟩
    by_cases hji : j = i
    · subst hji; exact hy.wpOp hi hS ⟨.inr hS, H⟩
    · have hjl : j ≠ last := fun e => waits_spec hw hk (e ▸ hj)
      have hjk : j ≠ k := fun e => by
        rcases hki with h | h
        · exact hji (e.trans h)
        · exact waits_spec h (mem_ready.1 hr).1 (e ▸ hj)
      have h1 := H.2 j (ready_mono hj hji)
      obtain ⟨hjun, oj, hoj, hall⟩ := mem_ready.1 hj
      have hnot : ∀ e ∈ oj.after, Region.binds md e = true → e.on ≠ i := fun e he hb heq => by
        have h1 := hall e he hb
        have h0 := (mem_ready.1 hr).1
        rw [heq] at h1
        rcases Nat.lt_or_ge i listed.size with h' | h'
        · simp [h'] at h0 h1; rw [h0] at h1; cases h1
        · simp [Array.getElem?_eq_none h'] at h1
      have h2 := wpOp_putIf hoj (hfree j oj hoj hji hjun hnot) (fun cs b => hsel i oi cs b hi) (fun cs b => hsel j oj cs b hoj) hQ hy h1
      have hfree' : ∀ k ok, ops[k]? = some ok → k ≠ i → (listed.setIfInBounds j true).getD k true = false →
          (∀ e ∈ ok.after, Region.binds md e = true → e.on ≠ i) → oi.apart ops ok = true := fun k ok hk hki hun hno => by
        refine hfree k ok hk hki ?_ hno
        by_cases hjk : j = k
        · subst hjk; exact hjun
        · rw [getD_set_ne true hjk] at hun; exact hun
      refine wpOp_mono (fun a' w' h3 => ?_) h2
      have hS' := h3.2.1.resolve_left hjl
      refine ⟨.inr hS', ih (listed.setIfInBounds j true) a' w' (by rw [getD_set_ne true hjk]; exact hk) hfree' (ready_mono hr (Ne.symm hji)) h3.1 hS' ?_⟩
      rw [Array.setIfInBounds_comm _ _ hji]
      exact h3.2.2

theorem AnyL.take {i : Nat} {oi : Oper} {v : Value} {fuel : Nat} {listed : Array Bool} {a : Act} {w : World} (hi : ops[i]? = some oi)
    (hs : Region.noSelect ops = true) (hf : Region.free md ops listed i = true) (hr : (Region.ready md ops listed).contains i = true) (k : Nat) (hw : waits md ops last k = true) (hki : (k == i || waits md ops k i) = true) (hk : listed.getD k true = false)
    (hQ : ∀ c a w, Q (.panic c) (a.put oi.dst v) w → Q (.panic c) a w) (hy : YieldsIf P ops S oi v a) (hS : S w)
    (h : AnyL P md ops Q S last fuel (listed.setIfInBounds i true) (a.put oi.dst v) w) : AnyL P md ops Q S last (fuel + 1) listed a w :=
  AnyL.first hi (Region.noSelect_spec hs) hQ k hw (by simpa using hki) fuel listed a w hk (Region.free_spec hi hf) (by simpa using hr) hy hS h

/-- One operation alone may come up. -/
theorem AnyL.one {i : Nat} {oi : Oper} {fuel : Nat} {listed : Array Bool} {a : Act} {w : World} (hi : ops[i]? = some oi) (hr : Region.ready md ops listed = [i])
    (h : ∀ K' : Act → World → Prop, Hid (∀ a w, (i = last ∨ S w) → AnyL P md ops Q S last fuel (listed.setIfInBounds i true) a w → K' a w) → if Region.wanted oi (yielded ops a.tmps) = true then Oper.wp P oi a w K' Q else K' (a.put oi.dst undef) w) :
    AnyL P md ops Q S last (fuel + 1) listed a w := by
  refine ⟨fun h0 => (by rw [hr] at h0; cases h0), fun j hj => ?_⟩
  rw [hr, List.mem_singleton] at hj
  subst hj
  unfold wpOp
  simp only [hi]
  have := h (fun a' w' => (j = last ∨ S w') ∧ AnyL P md ops Q S last fuel (listed.setIfInBounds j true) a' w') (show _ from fun _ _ h1 h2 => ⟨h1, h2⟩)
  split
  · rename_i hw
    rw [if_pos hw] at this
    exact .inl this
  · rename_i hw
    rw [if_neg hw] at this
    exact this

theorem AnyL.done {listed : Array Bool} {a : Act} {w : World} (hr : Region.ready md ops listed = []) (h : Q .normal a w) : ∀ fuel, AnyL P md ops Q S last fuel listed a w
  | 0 => ⟨hr, h⟩
  | _ + 1 => ⟨fun _ => h, by rw [hr]; simp⟩

theorem region_last {id : Nat} {a : Act} {w : World} (S : World → Prop) (last : Nat) (hm : P.follows .mixedOrders = true) (h : AnyL P .any ops Q S last ops.size (Array.replicate ops.size false) a w.drew) : (Code.region id ops true).wp P Q a w :=
  wp_region_any hm (AnyL.any _ _ _ _ h)

end
end Go.Proofs.Qxb6601448a
