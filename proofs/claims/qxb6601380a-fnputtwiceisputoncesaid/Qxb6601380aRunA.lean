/-
  A tree and the model's rows side by side; plain laws of a script's run. No program is walked here.
-/
import Derived.Test.Qxb6601380aFrm
import Derived.Test.Qxb6601380aOps
namespace Go.Proofs.Qxb6601380a
open Go.RowKit

/-- A tree and the model's rows, both laid since w0. -/
structure TwoAt (w0 w : World) (st : Nat) (v1 v2 : Value) (L1 L2 : List Ent) (bs : List Nat) : Prop where
  tree : TreeAt w st L1 bs
  rows : Rows2 w v1 v2 L2
  apart : ∀ b ∈ bs, b ∉ own2 v1 v2
  newT : ∀ b ∈ bs, w0.heap.size ≤ b
  newR : ∀ b ∈ own2 v1 v2, w0.heap.size ≤ b
  grown : w0.grownBy w none

theorem grown_moved {w0 w w' : World} {bs bs' : List Nat} (g : w0.grownBy w none) (m : Moved w w' bs bs') (h : ∀ b ∈ bs, w0.heap.size ≤ b) : w0.grownBy w' none :=
  ⟨m.os.trans g.os, m.tape.trans g.tape, m.output.trans g.output, Nat.le_trans g.size m.size, fun i hi hn => by
    have := g.size
    rw [m.block i (by omega) fun hm => by have := h i hm; omega, g.block i hi hn]⟩

section
variable {w0 w w' : World} {st : Nat} {v1 v2 v1' v2' : Value} {L1 L2 L' : List Ent} {bs bs' : List Nat}

theorem TwoAt.treeMoved (h : TwoAt w0 w st v1 v2 L1 L2 bs) (t : TreeAt w' st L' bs') (m : Moved w w' bs bs') : TwoAt w0 w' st v1 v2 L' L2 bs' := by
  have hs := h.grown.size
  refine ⟨t, h.rows.same fun b hb => m.block b (h.rows.lt b hb) fun hm => h.apart b hm hb, fun b hb hr => ?_, fun b hb => ?_, h.newR, grown_moved h.grown m h.newT⟩
  · rcases m.place b hb with q | q
    · exact h.apart b q hr
    · have := h.rows.lt b hr; omega
  · rcases m.place b hb with q | q
    · exact h.newT b q
    · omega

theorem TwoAt.rowsMoved (h : TwoAt w0 w st v1 v2 L1 L2 bs) (r : Rows2 w' v1' v2' L') (m : Moved w w' (own2 v1 v2) (own2 v1' v2')) : TwoAt w0 w' st v1' v2' L1 L' bs := by
  have hs := h.grown.size
  refine ⟨h.tree.same fun b hb => m.block b (h.tree.lt b hb) fun hm => h.apart b hb hm, r, fun b hb hr => ?_, h.newT, fun b hb => ?_, grown_moved h.grown m h.newR⟩
  · rcases m.place b hr with q | q
    · exact h.apart b hb q
    · have := h.tree.lt b hb; omega
  · rcases m.place b hb with q | q
    · exact h.newR b q
    · omega

theorem TwoAt.more (h : TwoAt w0 w st v1 v2 L1 L2 bs) (g : w.grownBy w' none) : TwoAt w0 w' st v1 v2 L1 L2 bs :=
  ⟨h.tree.same fun b hb => g.block b (h.tree.lt b hb) (by simp), h.rows.same fun b hb => g.block b (h.rows.lt b hb) (by simp), h.apart, h.newT, h.newR, grown_trans h.grown g⟩
end

/-! ### A script's run, plainly -/

theorem step_put (L : List Ent) (k : ByteArray) (r : Int) : stepL L (k, r, false) = putL k r L := rfl

theorem step_rm_yes {a b : List Ent} {k : ByteArray} {r r0 : Int} (ha : Bef a k) (hb : Aft b k) : stepL (a ++ (k, r0) :: b) (k, r, true) = a ++ b := by
  unfold stepL
  rw [if_pos rfl, if_pos (by simp), rmL_old ha hb]

theorem step_rm_no {a b : List Ent} {k : ByteArray} {r : Int} (ha : Bef a k) (hb : Aft b k) : stepL (a ++ b) (k, r, true) = a ++ b := by
  unfold stepL
  rw [if_pos rfl, if_neg]
  simp only [List.any_eq_true, decide_eq_true_eq, not_exists, not_and]
  intro e he heq
  rcases List.mem_append.1 he with q | q
  · exact kl_ne (ha e q) heq
  · exact kl_ne (hb e q) heq.symm

theorem mem_put {L : List Ent} {k : ByteArray} {r : Int} {e : Ent} (h : e ∈ putL k r L) : e.1 = k ∨ e ∈ L := by
  simp only [putL, List.mem_append, List.mem_cons, List.mem_filter] at h
  rcases h with h | h | h
  · exact .inr h.1
  · exact .inl (by rw [h])
  · exact .inr h.1

theorem mem_rm {L : List Ent} {k : ByteArray} {e : Ent} (h : e ∈ rmL k L) : e ∈ L := by
  simp only [rmL, List.mem_append, List.mem_filter] at h
  rcases h with h | h
  · exact h.1
  · exact h.1

theorem mem_step {L : List Ent} {o : ByteArray × Int × Bool} {e : Ent} (h : e ∈ stepL L o) : e.1 = o.1 ∨ e ∈ L := by
  unfold stepL at h
  split at h
  · split at h
    · exact .inr (mem_rm h)
    · exact .inr h
  · exact mem_put h

theorem len_put {L : List Ent} (h : Srt L) (k : ByteArray) (r : Int) : (putL k r L).length ≤ L.length + 1 := by
  rcases srt_about h k with ⟨a, b, rfl, ha, hb⟩ | ⟨a, r0, b, rfl, ha, hb⟩
  · rw [putL_new ha hb]; simp; omega
  · rw [putL_old ha hb]; simp

theorem len_rm {L : List Ent} (h : Srt L) (k : ByteArray) : (rmL k L).length ≤ L.length := by
  rcases srt_about h k with ⟨a, b, rfl, ha, hb⟩ | ⟨a, r0, b, rfl, ha, hb⟩
  · have := rmL_in ha hb []
    rw [List.append_nil, rmL_nil, List.append_nil] at this
    rw [this]
    exact Nat.le_refl _
  · rw [rmL_old ha hb]; simp

theorem len_step {L : List Ent} (h : Srt L) (o : ByteArray × Int × Bool) : (stepL L o).length ≤ L.length + 1 := by
  unfold stepL
  split
  · split
    · have := len_rm h o.1; omega
    · omega
  · exact len_put h _ _

theorem run_succ {ops : List (ByteArray × Int × Bool)} {m : Nat} {o : ByteArray × Int × Bool} (h : ops[m]? = some o) : runL (ops.take (m + 1)) = stepL (runL (ops.take m)) o := by
  rw [List.take_add_one, h]
  simp [runL, List.foldl_append]

theorem srt_run (ops : List (ByteArray × Int × Bool)) : Srt (runL ops) := by
  have : ∀ (l : List (ByteArray × Int × Bool)) (L : List Ent), Srt L → Srt (l.foldl stepL L) := by
    intro l
    induction l with
    | nil => intro L h; exact h
    | cons o l ih => intro L h; exact ih _ (srt_step h o)
  exact this ops [] List.Pairwise.nil

theorem len_run (ops : List (ByteArray × Int × Bool)) : (runL ops).length ≤ ops.length := by
  have : ∀ (l : List (ByteArray × Int × Bool)) (L : List Ent), Srt L → (l.foldl stepL L).length ≤ L.length + l.length := by
    intro l
    induction l with
    | nil => intro L h; exact Nat.le_refl _
    | cons o l ih =>
      intro L h
      have h1 := ih _ (srt_step h o)
      have h2 := len_step h o
      simp only [List.foldl_cons, List.length_cons]
      omega
  have := this ops [] List.Pairwise.nil
  rw [List.length_nil, Nat.zero_add] at this
  exact this

theorem mem_run (ops : List (ByteArray × Int × Bool)) : ∀ e ∈ runL ops, ∃ o ∈ ops, e.1 = o.1 := by
  have : ∀ (l : List (ByteArray × Int × Bool)) (L : List Ent) (e : Ent), e ∈ l.foldl stepL L → e ∈ L ∨ ∃ o ∈ l, e.1 = o.1 := by
    intro l
    induction l with
    | nil => intro L e h; exact .inl h
    | cons o l ih =>
      intro L e h
      rcases ih _ e h with q | ⟨o', h1, h2⟩
      · rcases mem_step q with q | q
        · exact .inr ⟨o, List.mem_cons_self .., q⟩
        · exact .inl q
      · exact .inr ⟨o', List.mem_cons_of_mem _ h1, h2⟩
  intro e he
  rcases this ops [] e he with q | q
  · simp at q
  · exact q

end Go.Proofs.Qxb6601380a
