/-
  slices.Delete at the entries (62) and at the children (72): the two by one text, made by program.
-/
import Derived.Test.Qxb6601380aRows
import Derived.WalkKit
import Derived.WalkSpells
import Derived.WalkLawsBesides
import Derived.Test.Qxb6601380aMem
namespace Go.Proofs.Qxb6601380a
open Go.RowKit

theorem Try.info36 : (Try.prog.info? 36).map (fun i => (i.zero, i.size, i.bytes)) = some (some (.agg #[.string ⟨#[]⟩, .int .u32 0]), 2, 24) := by kernel_rfl
theorem Try.info64 : (Try.prog.info? 64).map (fun i => (i.zero, i.size, i.bytes)) = some (some (.pointer none), 1, 8) := by kernel_rfl

theorem zero_one (z : Array Value) (h0 : 0 < z.size) (h : ∀ k : Fin z.size, (z[k.1]!).oneCell' = true) (n : Nat) : ∀ v ∈ (Builtin.zeroCells z n).toList, v.oneCell' = true := by
  intro v hv
  simp only [Builtin.zeroCells, Array.toList_map, List.mem_map] at hv
  obtain ⟨k, _, rfl⟩ := hv
  exact h ⟨k % z.size, Nat.mod_lt _ h0⟩

theorem delE_lists (i j n cap : Nat) (xs rest Z : List Value) (hl : xs.length = (n) * 2) (hij : i < j) (hjn : j ≤ n) (hnc : n ≤ cap) (hr : rest.length = (cap) * 2 - (n) * 2) (hZ : Z.length = (n - (i + (n - j))) * 2) :
    (xs.take ((i) * 2) ++ xs.drop ((j) * 2) ++ (xs ++ rest).drop ((i) * 2 + (n - j) * 2)).length = (cap) * 2 ∧
    ∃ r2, r2.length = (cap) * 2 - (i + (n - j)) * 2 ∧ (xs.take ((i) * 2) ++ xs.drop ((j) * 2) ++ (xs ++ rest).drop ((i) * 2 + (n - j) * 2)).take ((i + (n - j)) * 2) ++ Z ++ (xs.take ((i) * 2) ++ xs.drop ((j) * 2) ++ (xs ++ rest).drop ((i) * 2 + (n - j) * 2)).drop ((i + (n - j)) * 2 + (n - (i + (n - j))) * 2) = (xs.take ((i) * 2) ++ xs.drop ((j) * 2)) ++ r2 := by
  have e1 : (xs.take ((i) * 2) ++ xs.drop ((j) * 2)).length = (i + (n - j)) * 2 := by simp only [List.length_append, List.length_take, List.length_drop, hl]; omega
  have e0 : (xs.take ((i) * 2) ++ xs.drop ((j) * 2) ++ (xs ++ rest).drop ((i) * 2 + (n - j) * 2)).length = (cap) * 2 := by
    rw [List.length_append, e1, List.length_drop, List.length_append, hl, hr]; omega
  refine ⟨e0, Z ++ (xs.take ((i) * 2) ++ xs.drop ((j) * 2) ++ (xs ++ rest).drop ((i) * 2 + (n - j) * 2)).drop ((i + (n - j)) * 2 + (n - (i + (n - j))) * 2), ?_, ?_⟩
  · rw [List.length_append, List.length_drop, e0, hZ]; omega
  · rw [List.take_append_of_le_length (by omega), List.take_of_length_le (by omega), List.append_assoc]

set_option maxHeartbeats 1000000 in
theorem delE_some (g n cap i j : Nat) (xs rest : List Value) (w : World) (hl : xs.length = (n) * 2) (hij : i < j) (hjn : j ≤ n) (hnc : n ≤ cap) (hcm : cap ≤ maxLen) (hr : rest.length = (cap) * 2 - (n) * 2)
    (h1 : ∀ v ∈ xs, v.oneCell' = true) (hB : BlockAt w g 36 (xs ++ rest)) :
    Calls Try.prog 62 #[.slice (some ⟨g, 0, none⟩) n cap, .int .i64 i, .int .i64 j] w fun e w' =>
      e = .returned (.slice (some ⟨g, 0, none⟩) (i + (n - j)) cap) ∧ w'.ownsRow 0 36 2 (.slice (some ⟨g, 0, none⟩) (i + (n - j)) cap) (i + (n - j)) (xs.take ((i) * 2) ++ xs.drop ((j) * 2)) ∧ w.grownBy w' (some g) := by
  obtain ⟨i0, hi0, hz0, hz1, hz2⟩ := info_parts Try.info36
  have hcm' := hcm
  unfold maxLen at hcm
  have hZl : (Builtin.zeroCells (.agg #[.string ⟨#[]⟩, .int .u32 0] : Value).cells (n - (i + (n - j)))).toList.length = (n - (i + (n - j))) * 2 := by
    rw [Array.length_toList, size_zeroCells]; show _ * 2 = _; omega
  obtain ⟨hlenA, r2, hr2, hL⟩ := delE_lists i j n cap xs rest _ hl hij hjn hnc hr hZl
  have hA : xs.take ((i) * 2) ++ xs.drop ((j) * 2) ++ (xs ++ rest).drop ((i) * 2 + (n - j) * 2) = ((xs ++ rest).toArray.toList.take (i * i0.size) ++ xs.drop ((j) * 2) ++ (xs ++ rest).toArray.toList.drop (i * i0.size + (xs.drop ((j) * 2)).length)) := by
    have e : (n - j) * 2 = (n) * 2 - (j) * 2 := by omega
    rw [hz1, List.length_drop, hl, ← e]
    show _ = (xs ++ rest).take (i * 2) ++ _ ++ (xs ++ rest).drop _
    rw [show i * 2 = (i) * 2 by omega, List.take_append_of_le_length (by omega)]
  have hdl : (xs.drop ((j) * 2)).length = (n - j) * i0.size := by rw [hz1, List.length_drop, hl]; omega
  obtain ⟨A, hAA⟩ : ∃ A, A = xs.take ((i) * 2) ++ xs.drop ((j) * 2) ++ (xs ++ rest).drop ((i) * 2 + (n - j) * 2) := ⟨_, rfl⟩
  rw [← hAA] at hlenA hL hA
  have happ : ∀ ty a c, (∀ q u, (xs.drop ((j) * 2))[q]? = some u → w.drew.cell? (a.add q) = some u) → (Builtin.append_ #[26, 26] ty #[.slice (some ⟨g, 0, none⟩) i cap, .slice (some a) (n - j) c]).run Try.prog w.drew =
      .ok (.slice (some ⟨g, 0, none⟩) (i + (n - j)) cap) (w.drew.setRow g A.toArray) := fun ty a c hsrc => by
    rw [hA]
    exact run_append_room (P := Try.prog) w.drew 26 ty 36 i0 Try.underlying26 hi0 g i cap (xs ++ rest).toArray hB a (n - j) c (xs.drop ((j) * 2)) hdl hsrc (fun u hu => h1 u (List.mem_of_mem_drop hu)) (by omega)
      (by rw [hdl, hz1]; simp only [List.size_toArray, List.length_append, hl, hr]; omega)
  have hB1 : BlockAt (w.drew.setRow g A.toArray) g 36 A := BlockAt.row (w := w.drew) (by exact hB) _
  have hg1 : w.grownBy (w.drew.setRow g A.toArray) (some g) := grown_trans (grown_drew (World.grownBy.refl w _)) (grown_row _ _ _)
  obtain ⟨W1, hW1⟩ : ∃ W1, W1 = w.drew.setRow g A.toArray := ⟨_, rfl⟩
  rw [← hW1] at hB1 hg1
  simp only [← hW1] at happ
  have HAPP : Hid (∀ ty a c, (∀ q u, (xs.drop ((j) * 2))[q]? = some u → w.drew.cell? (a.add q) = some u) → (Builtin.append_ #[26, 26] ty #[.slice (some ⟨g, 0, none⟩) i cap, .slice (some a) (n - j) c]).run Try.prog w.drew = .ok (.slice (some ⟨g, 0, none⟩) (i + (n - j)) cap) W1) := happ
  have hcl := fun ty => run_clear_rowS (P := Try.prog) W1 26 ty 36 g ((i + (n - j)) * 2) (n - (i + (n - j))) (cap - (i + (n - j))) A 36 i0 (.agg #[.string ⟨#[]⟩, .int .u32 0]) Try.underlying26 hi0 hz0 hB1 (by omega) (by rw [hlenA]; show _ + _ * 2 ≤ _; omega) (zero_one _ (by decide) (by decide) _)
  have ez : (n - (i + (n - j))) * (.agg #[.string ⟨#[]⟩, .int .u32 0] : Value).cells.size = (n - (i + (n - j))) * 2 := by show _ * 2 = _; omega
  rw [ez, hL] at hcl
  have hB2 : BlockAt (W1.setRow g ((xs.take ((i) * 2) ++ xs.drop ((j) * 2)) ++ r2).toArray) g 36 ((xs.take ((i) * 2) ++ xs.drop ((j) * 2)) ++ r2) := hB1.row _
  have hg2 : w.grownBy (W1.setRow g ((xs.take ((i) * 2) ++ xs.drop ((j) * 2)) ++ r2).toArray) (some g) := grown_trans hg1 (grown_row _ _ _)
  have hown : (W1.setRow g ((xs.take ((i) * 2) ++ xs.drop ((j) * 2)) ++ r2).toArray).ownsRow 0 36 2 (.slice (some ⟨g, 0, none⟩) (i + (n - j)) cap) (i + (n - j)) (xs.take ((i) * 2) ++ xs.drop ((j) * 2)) :=
    own_shut (by simp only [List.length_append, List.length_take, List.length_drop, hl]; omega) (Nat.zero_le _) (by omega) hcm' (by omega) hB2
  obtain ⟨W2, hW2⟩ : ∃ W2, W2 = W1.setRow g ((xs.take ((i) * 2) ++ xs.drop ((j) * 2)) ++ r2).toArray := ⟨_, rfl⟩
  rw [← hW2] at hown hg2
  simp only [← hW2] at hcl
  have HCL : Hid (∀ ty, (Builtin.clear_ #[26] ty #[.slice (some ⟨g, (i + (n - j)) * 2, none⟩) (n - (i + (n - j))) (cap - (i + (n - j)))]).run Try.prog W1 = .ok (.tuple #[]) W2) := hcl
  have HOWN : Hid (W2.ownsRow 0 36 2 (.slice (some ⟨g, 0, none⟩) (i + (n - j)) cap) (i + (n - j)) (xs.take ((i) * 2) ++ xs.drop ((j) * 2))) := hown
  have hsrc : ∃ a : Addr, a = (if cap = j then ⟨g, 0, none⟩ else ⟨g, (j) * 2, none⟩) ∧ ∀ q u, (xs.drop ((j) * 2))[q]? = some u → w.drew.cell? (a.add q) = some u := by
    refine ⟨_, rfl, fun q u hq => ?_⟩
    have hq2 := (List.getElem?_eq_some_iff.1 hq).1
    rw [List.length_drop, hl] at hq2
    rw [if_neg (by omega), Addr.add_lit]
    show w.cell? _ = _
    rw [hB.cell, List.getElem?_append_left (by omega)]
    rwa [List.getElem?_drop] at hq
  obtain ⟨a, ha, hsrc⟩ := hsrc
  have HS := (show Hid _ from hsrc)
  clear hsrc hcl happ hown hL hA hB1 hB2 hg1 hW1 hW2 hAA hlenA hdl ez hZl h1 hB hl hr hr2
  have b1 : (i : Int) ≤ (j : Int) := by omega
  have b2 : (j : Int) ≤ (n : Int) := by omega
  have b3 : (n : Int) ≤ (cap : Int) := by omega
  have b4 : ((i : Int) == (j : Int)) = false := by simp; omega
  have b5 : ¬ cap = 0 := by omega
  have b6 : i ≤ cap := by omega
  have b7 : i + (n - j) ≤ n := by omega
  have b8 : ¬ cap = i + (n - j) := by omega
  have b9 : ¬ n = i := by omega
  by_cases hcj : cap = j
  · rw [if_pos hcj] at ha
    subst ha
    obtain rfl : n = j := by omega
    subst hcj
    simp only [Nat.sub_self, Nat.add_zero] at HAPP HCL HOWN HS b7 b8 ⊢
    go_enter Try.func62, Try.ntmps62
    go_wp2
    go_region_law (refine step_known rfl (exec_append (.tmp 22) (.tmp 25) 26 26 rfl ?_ ?_ (HAPP.out _ ⟨g, 0, none⟩ 0 HS.out)) ?_; simp [Act.eval, Act.put]; simp [Act.eval, Act.put])
    all_goals
      have hcl := HCL.out
      go_wp2
      go_ret
      exact ⟨rfl, HOWN.out, hg2⟩
  · rw [if_neg hcj] at ha
    subst ha
    go_enter Try.func62, Try.ntmps62
    go_wp2
    go_region_law (refine step_known rfl (exec_append (.tmp 22) (.tmp 25) 26 26 rfl ?_ ?_ (HAPP.out _ ⟨g, (j) * 2, none⟩ (cap - j) HS.out)) ?_; simp [Act.eval, Act.put]; simp [Act.eval, Act.put])
    all_goals
      have hcl := HCL.out
      go_wp2
      go_ret
      exact ⟨rfl, HOWN.out, hg2⟩

theorem delC_lists (i j n cap : Nat) (xs rest Z : List Value) (hl : xs.length = (n)) (hij : i < j) (hjn : j ≤ n) (hnc : n ≤ cap) (hr : rest.length = (cap) - (n)) (hZ : Z.length = (n - (i + (n - j)))) :
    (xs.take ((i)) ++ xs.drop ((j)) ++ (xs ++ rest).drop ((i) + (n - j))).length = (cap) ∧
    ∃ r2, r2.length = (cap) - (i + (n - j)) ∧ (xs.take ((i)) ++ xs.drop ((j)) ++ (xs ++ rest).drop ((i) + (n - j))).take ((i + (n - j))) ++ Z ++ (xs.take ((i)) ++ xs.drop ((j)) ++ (xs ++ rest).drop ((i) + (n - j))).drop ((i + (n - j)) + (n - (i + (n - j)))) = (xs.take ((i)) ++ xs.drop ((j))) ++ r2 := by
  have e1 : (xs.take ((i)) ++ xs.drop ((j))).length = (i + (n - j)) := by simp only [List.length_append, List.length_take, List.length_drop, hl]; omega
  have e0 : (xs.take ((i)) ++ xs.drop ((j)) ++ (xs ++ rest).drop ((i) + (n - j))).length = (cap) := by
    rw [List.length_append, e1, List.length_drop, List.length_append, hl, hr]; omega
  refine ⟨e0, Z ++ (xs.take ((i)) ++ xs.drop ((j)) ++ (xs ++ rest).drop ((i) + (n - j))).drop ((i + (n - j)) + (n - (i + (n - j)))), ?_, ?_⟩
  · rw [List.length_append, List.length_drop, e0, hZ]; omega
  · rw [List.take_append_of_le_length (by omega), List.take_of_length_le (by omega), List.append_assoc]

set_option maxHeartbeats 1000000 in
theorem delC_some (g n cap i j : Nat) (xs rest : List Value) (w : World) (hl : xs.length = (n)) (hij : i < j) (hjn : j ≤ n) (hnc : n ≤ cap) (hcm : cap ≤ maxLen) (hr : rest.length = (cap) - (n))
    (h1 : ∀ v ∈ xs, v.oneCell' = true) (hB : BlockAt w g 64 (xs ++ rest)) :
    Calls Try.prog 72 #[.slice (some ⟨g, 0, none⟩) n cap, .int .i64 i, .int .i64 j] w fun e w' =>
      e = .returned (.slice (some ⟨g, 0, none⟩) (i + (n - j)) cap) ∧ w'.ownsRow 0 64 1 (.slice (some ⟨g, 0, none⟩) (i + (n - j)) cap) (i + (n - j)) (xs.take ((i)) ++ xs.drop ((j))) ∧ w.grownBy w' (some g) := by
  obtain ⟨i0, hi0, hz0, hz1, hz2⟩ := info_parts Try.info64
  have hcm' := hcm
  unfold maxLen at hcm
  have hZl : (Builtin.zeroCells (.pointer none : Value).cells (n - (i + (n - j)))).toList.length = (n - (i + (n - j))) := by
    rw [Array.length_toList, size_zeroCells]; show _ * 1 = _; omega
  obtain ⟨hlenA, r2, hr2, hL⟩ := delC_lists i j n cap xs rest _ hl hij hjn hnc hr hZl
  have hA : xs.take ((i)) ++ xs.drop ((j)) ++ (xs ++ rest).drop ((i) + (n - j)) = ((xs ++ rest).toArray.toList.take (i * i0.size) ++ xs.drop ((j)) ++ (xs ++ rest).toArray.toList.drop (i * i0.size + (xs.drop ((j))).length)) := by
    have e : (n - j) = (n) - (j) := by omega
    rw [hz1, List.length_drop, hl, ← e]
    show _ = (xs ++ rest).take (i * 1) ++ _ ++ (xs ++ rest).drop _
    rw [show i * 1 = (i) by omega, List.take_append_of_le_length (by omega)]
  have hdl : (xs.drop ((j))).length = (n - j) * i0.size := by rw [hz1, List.length_drop, hl]; omega
  obtain ⟨A, hAA⟩ : ∃ A, A = xs.take ((i)) ++ xs.drop ((j)) ++ (xs ++ rest).drop ((i) + (n - j)) := ⟨_, rfl⟩
  rw [← hAA] at hlenA hL hA
  have happ : ∀ ty a c, (∀ q u, (xs.drop ((j)))[q]? = some u → w.drew.cell? (a.add q) = some u) → (Builtin.append_ #[87, 87] ty #[.slice (some ⟨g, 0, none⟩) i cap, .slice (some a) (n - j) c]).run Try.prog w.drew =
      .ok (.slice (some ⟨g, 0, none⟩) (i + (n - j)) cap) (w.drew.setRow g A.toArray) := fun ty a c hsrc => by
    rw [hA]
    exact run_append_room (P := Try.prog) w.drew 87 ty 64 i0 Try.underlying87 hi0 g i cap (xs ++ rest).toArray hB a (n - j) c (xs.drop ((j))) hdl hsrc (fun u hu => h1 u (List.mem_of_mem_drop hu)) (by omega)
      (by rw [hdl, hz1]; simp only [List.size_toArray, List.length_append, hl, hr]; omega)
  have hB1 : BlockAt (w.drew.setRow g A.toArray) g 64 A := BlockAt.row (w := w.drew) (by exact hB) _
  have hg1 : w.grownBy (w.drew.setRow g A.toArray) (some g) := grown_trans (grown_drew (World.grownBy.refl w _)) (grown_row _ _ _)
  obtain ⟨W1, hW1⟩ : ∃ W1, W1 = w.drew.setRow g A.toArray := ⟨_, rfl⟩
  rw [← hW1] at hB1 hg1
  simp only [← hW1] at happ
  have HAPP : Hid (∀ ty a c, (∀ q u, (xs.drop ((j)))[q]? = some u → w.drew.cell? (a.add q) = some u) → (Builtin.append_ #[87, 87] ty #[.slice (some ⟨g, 0, none⟩) i cap, .slice (some a) (n - j) c]).run Try.prog w.drew = .ok (.slice (some ⟨g, 0, none⟩) (i + (n - j)) cap) W1) := happ
  have hcl := fun ty => run_clear_rowS (P := Try.prog) W1 87 ty 64 g ((i + (n - j))) (n - (i + (n - j))) (cap - (i + (n - j))) A 64 i0 (.pointer none) Try.underlying87 hi0 hz0 hB1 (by omega) (by rw [hlenA]; show _ + _ * 1 ≤ _; omega) (zero_one _ (by decide) (by decide) _)
  have ez : (n - (i + (n - j))) * (.pointer none : Value).cells.size = (n - (i + (n - j))) := by show _ * 1 = _; omega
  rw [ez, hL] at hcl
  have hB2 : BlockAt (W1.setRow g ((xs.take ((i)) ++ xs.drop ((j))) ++ r2).toArray) g 64 ((xs.take ((i)) ++ xs.drop ((j))) ++ r2) := hB1.row _
  have hg2 : w.grownBy (W1.setRow g ((xs.take ((i)) ++ xs.drop ((j))) ++ r2).toArray) (some g) := grown_trans hg1 (grown_row _ _ _)
  have hown : (W1.setRow g ((xs.take ((i)) ++ xs.drop ((j))) ++ r2).toArray).ownsRow 0 64 1 (.slice (some ⟨g, 0, none⟩) (i + (n - j)) cap) (i + (n - j)) (xs.take ((i)) ++ xs.drop ((j))) :=
    own_shut (by simp only [List.length_append, List.length_take, List.length_drop, hl]; omega) (Nat.zero_le _) (by omega) hcm' (by omega) hB2
  obtain ⟨W2, hW2⟩ : ∃ W2, W2 = W1.setRow g ((xs.take ((i)) ++ xs.drop ((j))) ++ r2).toArray := ⟨_, rfl⟩
  rw [← hW2] at hown hg2
  simp only [← hW2] at hcl
  have HCL : Hid (∀ ty, (Builtin.clear_ #[87] ty #[.slice (some ⟨g, (i + (n - j)), none⟩) (n - (i + (n - j))) (cap - (i + (n - j)))]).run Try.prog W1 = .ok (.tuple #[]) W2) := hcl
  have HOWN : Hid (W2.ownsRow 0 64 1 (.slice (some ⟨g, 0, none⟩) (i + (n - j)) cap) (i + (n - j)) (xs.take ((i)) ++ xs.drop ((j)))) := hown
  have hsrc : ∃ a : Addr, a = (if cap = j then ⟨g, 0, none⟩ else ⟨g, (j), none⟩) ∧ ∀ q u, (xs.drop ((j)))[q]? = some u → w.drew.cell? (a.add q) = some u := by
    refine ⟨_, rfl, fun q u hq => ?_⟩
    have hq2 := (List.getElem?_eq_some_iff.1 hq).1
    rw [List.length_drop, hl] at hq2
    rw [if_neg (by omega), Addr.add_lit]
    show w.cell? _ = _
    rw [hB.cell, List.getElem?_append_left (by omega)]
    rwa [List.getElem?_drop] at hq
  obtain ⟨a, ha, hsrc⟩ := hsrc
  have HS := (show Hid _ from hsrc)
  clear hsrc hcl happ hown hL hA hB1 hB2 hg1 hW1 hW2 hAA hlenA hdl ez hZl h1 hB hl hr hr2
  have b1 : (i : Int) ≤ (j : Int) := by omega
  have b2 : (j : Int) ≤ (n : Int) := by omega
  have b3 : (n : Int) ≤ (cap : Int) := by omega
  have b4 : ((i : Int) == (j : Int)) = false := by simp; omega
  have b5 : ¬ cap = 0 := by omega
  have b6 : i ≤ cap := by omega
  have b7 : i + (n - j) ≤ n := by omega
  have b8 : ¬ cap = i + (n - j) := by omega
  have b9 : ¬ n = i := by omega
  by_cases hcj : cap = j
  · rw [if_pos hcj] at ha
    subst ha
    obtain rfl : n = j := by omega
    subst hcj
    simp only [Nat.sub_self, Nat.add_zero] at HAPP HCL HOWN HS b7 b8 ⊢
    go_enter Try.func72, Try.ntmps72
    go_wp2
    go_region_law (refine step_known rfl (exec_append (.tmp 22) (.tmp 25) 87 87 rfl ?_ ?_ (HAPP.out _ ⟨g, 0, none⟩ 0 HS.out)) ?_; simp [Act.eval, Act.put]; simp [Act.eval, Act.put])
    all_goals
      have hcl := HCL.out
      go_wp2
      go_ret
      exact ⟨rfl, HOWN.out, hg2⟩
  · rw [if_neg hcj] at ha
    subst ha
    go_enter Try.func72, Try.ntmps72
    go_wp2
    go_region_law (refine step_known rfl (exec_append (.tmp 22) (.tmp 25) 87 87 rfl ?_ ?_ (HAPP.out _ ⟨g, (j), none⟩ (cap - j) HS.out)) ?_; simp [Act.eval, Act.put]; simp [Act.eval, Act.put])
    all_goals
      have hcl := HCL.out
      go_wp2
      go_ret
      exact ⟨rfl, HOWN.out, hg2⟩

end Go.Proofs.Qxb6601380a
