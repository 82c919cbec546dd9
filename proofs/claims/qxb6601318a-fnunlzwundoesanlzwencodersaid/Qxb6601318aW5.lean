/-
  slices.Grow at []byte (18).
-/
import Derived.Test.Qxb6601318aW3
import Derived.Lib.AppendZerosOnto
import Derived.Lib.Walk
namespace Go.Proofs.Qxb6601318a
open Go.RowKit

theorem run_zeros_nil (w : World) (m : Nat) (hm : 1 ≤ m) (hmm : m ≤ 1000000000) (ty : TypeId) :
    (Builtin.append_ #[22, 3] ty #[.slice none 0 0, .int .i64 (m : Int)]).run Try.prog w =
      .ok (.slice (some ⟨w.heap.size, 0, none⟩) m (grownCap w m 0 5)) (w.drew.alloc (.cells (Builtin.zeroCells (Value.int .u8 0).cells m ++ Builtin.zeroCells (Value.int .u8 0).cells (grownCap w m 0 5 - m)) 5)) := by
  obtain ⟨i0, hi, hz0, hz1, hz2⟩ := info_parts Try.info5
  have h := Lib.run_append_grow_zeros w 22 3 ty 5 i0 (.int .u8 0) .i64 .i64 Try.underlying22 Try.underlying3 hi hz0 none 0 0 [] (run_firstCells_none w.drew i0.size 0 0 0) m (by omega) (by omega) (by omega) (by omega)
      (by rw [hz2]; omega) (growslice_fits (by omega) (by rw [hz2]; omega))
  simpa using h

theorem run_zeros_row (w : World) (g n c m : Nat) (cur : Array Value) (hg : w.heap[g]? = some (.cells cur 5 (0, 0))) (hcs : cur.size = c * 1) (hroom : c < n + m) (_hnc : n ≤ c) (hmm : n + m ≤ 1000000000) (ty : TypeId) :
    (Builtin.append_ #[22, 3] ty #[.slice (some ⟨g, 0, none⟩) c c, .int .i64 ((m : Int) - ((c : Int) - (n : Int)))]).run Try.prog w =
      .ok (.slice (some ⟨w.heap.size, 0, none⟩) (n + m) (grownCap w (n + m) c 5)) (w.drew.alloc (.cells (cur ++ Builtin.zeroCells (Value.int .u8 0).cells (n + m - c) ++ Builtin.zeroCells (Value.int .u8 0).cells (grownCap w (n + m) c 5 - (n + m))) 5)) := by
  obtain ⟨i0, hi, hz0, hz1, hz2⟩ := info_parts Try.info5
  have hck : c + (n + m - c) = n + m := by omega
  have hold : (Builtin.firstCells i0.size c (.slice (some ⟨g, 0, none⟩) c c)).run Try.prog w.drew = .ok cur.toList.toArray w.drew := by
    refine run_firstCells_some w.drew i0.size c ⟨g, 0, none⟩ c c cur.toList (by rw [hz1]; simpa using hcs) (fun j v hj => ?_)
    have hadd : (⟨g, 0, none⟩ : Addr).add j = ⟨g, j, none⟩ := by unfold Addr.add; split <;> simp_all
    rw [hadd, cell_of_row w.drew g j cur 5 (0, 0) hg]
    simpa using hj
  have h := Lib.run_append_grow_zeros w 22 3 ty 5 i0 (.int .u8 0) .i64 .i64 Try.underlying22 Try.underlying3 hi hz0 (some ⟨g, 0, none⟩) c c cur.toList hold (n + m - c) (by omega) (by omega) (by omega) (by omega)
      (by rw [hz2]; omega) (by rw [hck]; exact growslice_fits hroom (by rw [hz2]; omega))
  rw [hck] at h
  rw [show (m : Int) - ((c : Int) - (n : Int)) = ((n + m - c : Nat) : Int) by omega]
  simpa using h

set_option maxHeartbeats 1000000 in
theorem grow_any (base : Nat) (v : Value) (n m : Nat) (xs : List Value) (w : World) (ho : w.ownsRow base 5 1 v n xs) (hb : base ≤ w.heap.size) (hm : 1 ≤ m) (hnm : n + m ≤ 1000000000) :
    Calls Try.prog 18 #[v, .int .i64 m] w fun e w' => ∃ g cap, e = .returned (.slice (some ⟨g, 0, none⟩) n cap) ∧ n + m ≤ cap ∧ w'.ownsRow base 5 1 (.slice (some ⟨g, 0, none⟩) n cap) n xs ∧ Kept w w' v (.slice (some ⟨g, 0, none⟩) n cap) := by
  have ho0 := ho
  obtain ⟨hlen, hown⟩ := ho
  rcases hown with ⟨rfl, rfl⟩ | ⟨g, c, cur, rfl, hbg, hg, hnc, hcm, hcs, htake⟩
  · obtain rfl : xs = [] := List.eq_nil_of_length_eq_zero (by simpa using hlen)
    have hr := fun ty => run_zeros_nil w m hm (by omega) ty
    have hGn := grownCap_ge w m 0 5
    have hGm := grownCap_le_maxLen w m 0 5 (by unfold maxLen; omega)
    unfold maxLen at hGm
    obtain ⟨G, hG⟩ : ∃ G, G = grownCap w m 0 5 := ⟨_, rfl⟩
    rw [← hG] at hGn hGm
    simp only [← hG] at hr
    clear hG ho0
    have hf : (w.drew.alloc (.cells (Builtin.zeroCells (Value.int .u8 0).cells m ++ Builtin.zeroCells (Value.int .u8 0).cells (G - m)) 5)).ownsRow base 5 1 (.slice (some ⟨w.heap.size, 0, none⟩) 0 G) 0 [] :=
      World.ownsRow_made w.drew _ G hb (by unfold maxLen; omega) (by simp [size_zeroCells, Value.cells]; omega)
    have hK : Kept w (w.drew.alloc (.cells (Builtin.zeroCells (Value.int .u8 0).cells m ++ Builtin.zeroCells (Value.int .u8 0).cells (G - m)) 5)) (.slice none 0 0) (.slice (some ⟨w.heap.size, 0, none⟩) 0 G) :=
      ⟨⟨rfl, rfl, rfl, by simp, fun k hk _ => Below.heap_alloc w _ k hk⟩, fun k hk => .inr (by simp [Value.ownBlock] at hk; omega)⟩
    go_enter Try.func18, Try.ntmps18
    go_wp2_with (at_builtin; refine Lib.wpList_append_run _ rfl _ _ _ _ rfl _ _ rfl rfl _ _ (hr _) ?_)
    all_goals (go_ret; exact ⟨_, _, rfl, by omega, hf, hK⟩)
  · unfold maxLen at hcm
    by_cases hroom : n + m ≤ c
    · clear hg htake hlen hcs
      go_enter Try.func18, Try.ntmps18
      go_wp2
      go_ret
      exact ⟨g, c, rfl, hroom, ho0, Kept.refl _ _⟩
    · have hr := fun ty => run_zeros_row w g n c m cur hg hcs (by omega) hnc hnm ty
      have hGn := grownCap_ge w (n + m) c 5
      have hGm := grownCap_le_maxLen w (n + m) c 5 (by unfold maxLen; omega)
      unfold maxLen at hGm
      obtain ⟨G, hG⟩ : ∃ G, G = grownCap w (n + m) c 5 := ⟨_, rfl⟩
      rw [← hG] at hGn hGm
      simp only [← hG] at hr
      clear hG
      obtain ⟨Z, hZ⟩ : ∃ Z, Z = cur ++ Builtin.zeroCells (Value.int .u8 0).cells (n + m - c) ++ Builtin.zeroCells (Value.int .u8 0).cells (G - (n + m)) := ⟨_, rfl⟩
      simp only [← hZ] at hr
      have hf : (w.drew.alloc (.cells Z 5)).ownsRow base 5 1 (.slice (some ⟨w.heap.size, 0, none⟩) n G) n xs := by
        refine ⟨hlen, .inr ⟨w.heap.size, G, _, rfl, hb, heap_alloc_new w.drew _, by omega, by unfold maxLen; omega, ?_, ?_⟩⟩
        · rw [hZ]; simp [size_zeroCells, Value.cells, hcs]; omega
        · rw [hZ, Array.toList_append, Array.toList_append, List.append_assoc, List.take_append_of_le_length (by simp [hcs]; omega), htake]
      have hK : Kept w (w.drew.alloc (.cells Z 5)) (.slice (some ⟨g, 0, none⟩) n c) (.slice (some ⟨w.heap.size, 0, none⟩) n G) :=
        ⟨⟨rfl, rfl, rfl, by simp, fun k hk _ => Below.heap_alloc w _ k hk⟩, fun k hk => .inr (by simp [Value.ownBlock] at hk; omega)⟩
      clear hZ
      clear hg htake hlen hcs ho0
      go_enter Try.func18, Try.ntmps18
      go_wp2_with (at_builtin; refine Lib.wpList_append_run _ rfl _ _ _ _ rfl _ _ rfl rfl _ _ (hr _) ?_)
      all_goals (go_ret; exact ⟨_, _, rfl, by omega, hf, hK⟩)

end Go.Proofs.Qxb6601318a
