/-
  Two roads to one list: sorted, then filtered; filtered, then sorted. No program is walked here.
-/
import Derived.Test.Qxb6601448aSrt
import Derived.Test.Qxb6601448aDlf
namespace Go.Proofs.Qxb6601448a
open Go.RowKit

def ble (x y : ByteArray) : Prop := lb x ≤ lb y

theorem ble_trans {x y z : ByteArray} (h : ble x y) (k : ble y z) : ble x z := List.le_trans h k
theorem ble_anti {x y : ByteArray} (h : ble x y) (k : ble y x) : x = y := by
  have := List.le_antisymm h k
  rw [← bl_lb x, this, bl_lb]
theorem ble_of_lt {x y : ByteArray} (h : lb x < lb y) : ble x y := List.le_of_lt h
theorem ble_of_not {x y : ByteArray} (h : ¬ lb x < lb y) : ble y x := List.not_lt.1 h

theorem srt_perm (ss : List ByteArray) : (srt ss).Perm ss := by
  unfold srt
  have h := (List.mergeSort_perm (ss.map lb) (fun x y => decide (x ≤ y))).map bl
  rw [List.map_map] at h
  have e : ss.map (bl ∘ lb) = ss := by
    conv => rhs; rw [← List.map_id ss]
    apply List.map_congr_left
    intro s _
    exact bl_lb s
  rw [e] at h
  exact h

theorem srt_sorted (ss : List ByteArray) : (srt ss).Pairwise ble := by
  unfold srt
  rw [List.pairwise_map]
  have tr : ∀ a b c : List UInt8, decide (a ≤ b) = true → decide (b ≤ c) = true → decide (a ≤ c) = true := fun a b c h1 h2 => by simp only [decide_eq_true_eq] at *; exact List.le_trans h1 h2
  have tot : ∀ a b : List UInt8, (decide (a ≤ b) || decide (b ≤ a)) = true := fun a b => by simp only [Bool.or_eq_true, decide_eq_true_eq]; exact List.le_total a b
  have h := List.pairwise_mergeSort tr tot (ss.map lb)
  have e : (fun a b => ble (bl a) (bl b)) = fun a b => decide (a ≤ b) = true := by
    funext a b
    unfold ble
    rw [lb_bl, lb_bl]
    simp
  rw [e]
  exact h

theorem srt_len (ss : List ByteArray) : (srt ss).length = ss.length := (srt_perm ss).length_eq

/-- A sorted list of those that are kept is the sorted list, filtered. -/
theorem sorted_keep {ex ss L : List ByteArray} (hs : L.Pairwise ble) (hp : L.Perm (keep ex ss)) : L = keep ex (srt ss) := by
  refine List.Perm.eq_of_pairwise (le := ble) (fun a b _ _ h1 h2 => ble_anti h1 h2) hs ((srt_sorted ss).filter _) (hp.trans ?_)
  exact ((srt_perm ss).filter _).symm

/-- One round of an insertion, in the midst of it. -/
structure Ins (A : List ByteArray) (x : ByteArray) (B : List ByteArray) : Prop where
  a : A.Pairwise ble
  b : (x :: B).Pairwise ble
  c : ∀ u ∈ A, ∀ v ∈ B, ble u v

theorem Ins.start {A : List ByteArray} (h : A.Pairwise ble) (x : ByteArray) : Ins A x [] :=
  ⟨h, List.pairwise_singleton _ _, fun u _ v hv => by simp at hv⟩

theorem Ins.step {A B : List ByteArray} {x y : ByteArray} (h : Ins (A ++ [y]) x B) (hxy : lb x < lb y) : Ins A x (y :: B) := by
  have ha := List.pairwise_append.1 h.a
  have hb := List.pairwise_cons.1 h.b
  have hy : ∀ v ∈ B, ble y v := fun v hv => h.c y (by simp) v hv
  refine ⟨ha.1, ?_, ?_⟩
  · rw [List.pairwise_cons, List.pairwise_cons]
    refine ⟨fun v hv => ?_, hy, hb.2⟩
    rcases List.mem_cons.1 hv with rfl | hv
    · exact ble_of_lt hxy
    · exact hb.1 v hv
  · intro u hu v hv
    rcases List.mem_cons.1 hv with rfl | hv
    · exact ha.2.2 u hu v (by simp)
    · exact h.c u (by simp [hu]) v hv

theorem Ins.stop0 {B : List ByteArray} {x : ByteArray} (h : Ins [] x B) : (x :: B).Pairwise ble := h.b

theorem Ins.stop {A B : List ByteArray} {x y : ByteArray} (h : Ins (A ++ [y]) x B) (hxy : ¬ lb x < lb y) : ((A ++ [y]) ++ x :: B).Pairwise ble := by
  have hb := List.pairwise_cons.1 h.b
  have ha := List.pairwise_append.1 h.a
  rw [List.pairwise_append]
  refine ⟨h.a, h.b, fun u hu v hv => ?_⟩
  rcases List.mem_cons.1 hv with rfl | hv
  · rcases List.mem_append.1 hu with q | q
    · exact ble_trans (ha.2.2 u q y (by simp)) (ble_of_not hxy)
    · obtain rfl : u = y := by simpa using q
      exact ble_of_not hxy
  · exact h.c u hu v hv

end Go.Proofs.Qxb6601448a
