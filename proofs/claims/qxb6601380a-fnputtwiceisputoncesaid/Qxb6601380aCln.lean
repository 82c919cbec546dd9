/-
  slices.Clone at the entries (70) and at the children (71); made by program.
-/
import Derived.Test.Qxb6601380aRows
import Derived.WalkKit
import Derived.WalkSpells
import Derived.WalkLawsBesides
import Derived.Test.Qxb6601380aApp
import Derived.Test.Qxb6601380aDel
import Derived.Test.Qxb6601380aSrch
namespace Go.Proofs.Qxb6601380a
open Go.RowKit

theorem cln_cell {w : World} {g o q : Nat} {u : Value} {ob : Obj} (h : w.cell? ((⟨g, o, none⟩ : Addr).add q) = some u) (hg : g < w.heap.size) : (w.alloc ob).cell? ((⟨g, o, none⟩ : Addr).add q) = some u := by
  rw [Addr.add_lit] at h ⊢
  rw [World.cell?_alloc_past _ _ _ hg]
  exact h

theorem cln_grown {w w' : World} {ob : Obj} {c : Nat} (h : (w.alloc ob).grownBy w' (Value.slice (some ⟨w.heap.size, 0, none⟩) 0 c).ownBlock) : w.grownBy w' none := by
  have h0 := World.grownBy_alloc w ob none
  refine ⟨h.os.trans h0.os, h.tape.trans h0.tape, h.output.trans h0.output, Nat.le_trans h0.size h.size, fun k hk _ => ?_⟩
  have := h0.size
  rw [h.block k (by omega) (by simp [Value.ownBlock]; omega), h0.block k hk (by simp)]

theorem cln_ownE (w : World) : (w.alloc (.cells #[] 36)).ownsRow w.heap.size 36 2 (.slice (some ⟨w.heap.size, 0, none⟩) 0 0) 0 [] :=
  ⟨by simp, .inr ⟨w.heap.size, 0, #[], rfl, Nat.le_refl _, heap_alloc_new w _, Nat.le_refl _, by unfold maxLen; omega, by simp, by simp⟩⟩

set_option maxHeartbeats 1000000 in
set_option maxRecDepth 100000 in
theorem clnE (g o m c : Nat) (xs : List Value) (w : World) (hl : xs.length = m * 2) (hc : ∀ q u, xs[q]? = some u → w.cell? ((⟨g, o, none⟩ : Addr).add q) = some u) (hx1 : ∀ u ∈ xs, u.oneCell' = true) (hm : m ≤ 100) (hg : g < w.heap.size) :
    Calls Try.prog 70 #[.slice (some ⟨g, o, none⟩) m c] w fun e w' => ∃ v', e = .returned v' ∧ w'.ownsRow w.heap.size 36 2 v' m xs ∧ w.grownBy w' none := by
  obtain ⟨i0, hi0, hz0, hz1, hz2⟩ := info_parts Try.info36
  have hnil := fun w' => Lib.run_eql_slice_nil (P := Try.prog) w' 26 36 (some ⟨g, o, none⟩) m c 0 0 Try.underlying26
  go_enter Try.func70, Try.ntmps70
  go_wp2_with (at_builtin; refine wpList_append_sharp _ rfl (.tmp 5) (.tmp 6) 26 rfl w.heap.size 36 i0 (.agg #[.string ⟨#[]⟩, .int .u32 0]) 2 24 Try.underlying26 hi0 hz0 hz1 hz2 rfl (by decide) (.slice (some ⟨w.heap.size, 0, none⟩) 0 0) 0 [] rfl (by exact cln_ownE w) ⟨g, o, none⟩ m c xs rfl hl (by exact fun q u hq => cln_cell (hc q u hq) hg) hx1 (by unfold maxLen; omega) (by omega) (by exact (World.grownBy_alloc w _ none).size) ?_; intro v' w' h1 h2 h3)
  all_goals
    go_ret
    rw [Nat.zero_add] at h1
    exact ⟨_, rfl, h1, cln_grown h2⟩

theorem cln_ownC (w : World) : (w.alloc (.cells #[] 64)).ownsRow w.heap.size 64 1 (.slice (some ⟨w.heap.size, 0, none⟩) 0 0) 0 [] :=
  ⟨by simp, .inr ⟨w.heap.size, 0, #[], rfl, Nat.le_refl _, heap_alloc_new w _, Nat.le_refl _, by unfold maxLen; omega, by simp, by simp⟩⟩

set_option maxHeartbeats 1000000 in
set_option maxRecDepth 100000 in
theorem clnC (g o m c : Nat) (xs : List Value) (w : World) (hl : xs.length = m * 1) (hc : ∀ q u, xs[q]? = some u → w.cell? ((⟨g, o, none⟩ : Addr).add q) = some u) (hx1 : ∀ u ∈ xs, u.oneCell' = true) (hm : m ≤ 100) (hg : g < w.heap.size) :
    Calls Try.prog 71 #[.slice (some ⟨g, o, none⟩) m c] w fun e w' => ∃ v', e = .returned v' ∧ w'.ownsRow w.heap.size 64 1 v' m xs ∧ w.grownBy w' none := by
  obtain ⟨i0, hi0, hz0, hz1, hz2⟩ := info_parts Try.info64
  have hnil := fun w' => Lib.run_eql_slice_nil (P := Try.prog) w' 87 64 (some ⟨g, o, none⟩) m c 0 0 Try.underlying87
  go_enter Try.func71, Try.ntmps71
  go_wp2_with (at_builtin; refine wpList_append_sharp _ rfl (.tmp 5) (.tmp 6) 87 rfl w.heap.size 64 i0 (.pointer none) 1 8 Try.underlying87 hi0 hz0 hz1 hz2 rfl (by decide) (.slice (some ⟨w.heap.size, 0, none⟩) 0 0) 0 [] rfl (by exact cln_ownC w) ⟨g, o, none⟩ m c xs rfl hl (by exact fun q u hq => cln_cell (hc q u hq) hg) hx1 (by unfold maxLen; omega) (by omega) (by exact (World.grownBy_alloc w _ none).size) ?_; intro v' w' h1 h2 h3)
  all_goals
    go_ret
    rw [Nat.zero_add] at h1
    exact ⟨_, rfl, h1, cln_grown h2⟩

end Go.Proofs.Qxb6601380a
