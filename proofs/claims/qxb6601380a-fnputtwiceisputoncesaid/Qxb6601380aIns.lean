/-
  slices.Insert of one element at the entries (61) and at the children (73): the two by one text, made by program.
-/
import Derived.Test.Qxb6601380aDel
import Derived.Test.Qxb6601380aApp
import Derived.Lib.Overlaps
import Derived.Lib.AppendZerosOnto
namespace Go.Proofs.Qxb6601380a
open Go.RowKit

theorem ins_place (xs rest ys : List Value) (p q : Nat) (hp : p ≤ xs.length) (_hq : ys.length = q) (hr : q ≤ rest.length) :
    ((xs ++ rest).take (p + q) ++ xs.drop p ++ (xs ++ rest).drop (p + q + (xs.length - p))).take p ++ ys ++ ((xs ++ rest).take (p + q) ++ xs.drop p ++ (xs ++ rest).drop (p + q + (xs.length - p))).drop (p + q) = xs.take p ++ ys ++ xs.drop p ++ rest.drop q := by
  have hl : ((xs ++ rest).take (p + q)).length = p + q := by simp; omega
  rw [List.append_assoc ((xs ++ rest).take (p + q)), List.take_append_of_le_length (by omega), List.take_take, Nat.min_eq_left (by omega), List.take_append_of_le_length hp]
  have e : ((xs ++ rest).take (p + q) ++ (xs.drop p ++ (xs ++ rest).drop (p + q + (xs.length - p)))).drop (p + q) = xs.drop p ++ (xs ++ rest).drop (p + q + (xs.length - p)) := by
    have := List.drop_left' (l₁ := (xs ++ rest).take (p + q)) (l₂ := xs.drop p ++ (xs ++ rest).drop (p + q + (xs.length - p))) hl
    exact this
  rw [e, show p + q + (xs.length - p) = xs.length + q by omega, List.drop_append]
  simp

theorem wrap64_s (i : Nat) (h : i ≤ 4000000000) : wrap64 ((i : Int) + 1) = (i : Int) + 1 := IntWalk.wrap64_in _ (by omega)
theorem wrapI_s (i : Nat) (h : i ≤ 4000000000) : IntKind.i64.wrap ((i : Int) + 1) = (i : Int) + 1 := by rw [IntKind.wrap_i64]; omega

theorem ins_grow (xs ys Z : List Value) (p q : Nat) (hp : p ≤ xs.length) (hq : ys.length = q) (_hZ : q + (xs.length - p) ≤ Z.length) :
    ((xs.take p ++ Z).take p ++ ys ++ (xs.take p ++ Z).drop (p + q)).take (p + q) ++ xs.drop p ++ ((xs.take p ++ Z).take p ++ ys ++ (xs.take p ++ Z).drop (p + q)).drop (p + q + (xs.length - p)) = xs.take p ++ ys ++ xs.drop p ++ Z.drop (q + (xs.length - p)) := by
  have hl : (xs.take p).length = p := by simp; omega
  have e1 : (xs.take p ++ Z).take p = xs.take p := List.take_left' hl
  have e2 : (xs.take p ++ Z).drop (p + q) = Z.drop q := by
    rw [← hl, List.drop_append]; simp
  have hl2 : (xs.take p ++ ys).length = p + q := by rw [List.length_append, hl, hq]
  rw [e1, e2, List.take_left' hl2]
  have e3 : (xs.take p ++ ys ++ Z.drop q).drop (p + q + (xs.length - p)) = Z.drop (q + (xs.length - p)) := by
    rw [← hl2, List.drop_append, List.drop_drop]; simp
  rw [e3]

theorem ovlE (w : World) (g vb : Nat) (hne : vb ≠ g) (ys cur : List Value) (hy : BlockAt w vb 36 ys) (hB : BlockAt w g 36 cur) (hc : cur.length ≠ 0) (o lb cb : Nat) :
    (callFunc 74 #[.slice (some ⟨vb, 0, none⟩) 1 1, .slice (some ⟨g, o, none⟩) lb cb]).run Try.prog w = .ok (.value (.bool false)) w := by
  obtain ⟨i0, hi0, hz0, hz1, hz2⟩ := info_parts Try.info36
  have hsz : ∀ w, (Go.sizeOf 36).run Try.prog w = .ok 2 w := fun w => by simp [Go.sizeOf, typeInfo, hi0, hz1]
  have hsa : w.shape? vb = some (36, ys.length) := by
    have : w.heap[vb]? = some (.cells ys.toArray 36 (0, 0)) := hy
    simp [World.shape?, this]
  have hsb : w.shape? g = some (36, cur.length) := by
    have : w.heap[g]? = some (.cells cur.toArray 36 (0, 0)) := hB
    simp [World.shape?, this]
  rw [run_callFunc_extern Try.func74 (by kernel_rfl) (by kernel_rfl) (by kernel_rfl) (e := Extern.SlicesOverlaps.overlaps #[26, 26] #[4]) (by kernel_rfl),
    Lib.run_overlaps_apart w 26 4 36 Try.underlying26 2 hsz ⟨vb, 0, none⟩ ⟨g, o, none⟩ 1 1 lb cb hne 36 36 _ _ hsa hsb hc (hy.frozen 0) (hy.frozen _)]
  rfl


set_option maxHeartbeats 1000000 in
set_option maxRecDepth 100000 in
theorem insE_end (v : Value) (n vb : Nat) (xs ys : List Value) (w : World) (ho : w.ownsRow 0 36 2 v n xs) (hn : n ≤ 1000000) (hyl : ys.length = 2) (hy1 : ∀ u ∈ ys, u.oneCell' = true) (hy : BlockAt w vb 36 ys) :
    Calls Try.prog 61 #[v, .int .i64 n, .slice (some ⟨vb, 0, none⟩) 1 1] w fun e w' =>
      ∃ v', e = .returned v' ∧ w'.ownsRow 0 36 2 v' (n + 1) (xs ++ ys) ∧ Kept w w' v v' := by
  obtain ⟨i0, hi0, hz0, hz1, hz2⟩ := info_parts Try.info36
  have hnews : ∀ q u, ys[q]? = some u → w.cell? ((⟨vb, 0, none⟩ : Addr).add q) = some u := fun q u hq => by
    rw [Addr.add_lit, Nat.zero_add, hy.cell]; exact hq
  have hv : ∃ a c, v = .slice a n c ∧ n ≤ c ∧ (c = 0 ∨ ∃ g, a = some ⟨g, 0, none⟩) ∧ c ≤ maxLen := by
    rcases ho.2 with ⟨rfl, rfl⟩ | ⟨g, cap, cur, rfl, _, _, hnc, hcm, _⟩
    · exact ⟨none, 0, rfl, Nat.le_refl _, .inl rfl, by unfold maxLen; omega⟩
    · exact ⟨_, cap, rfl, hnc, .inr ⟨g, rfl⟩, hcm⟩
  obtain ⟨a, c, rfl, hnc, hac, hcm⟩ := hv
  unfold maxLen at hcm
  have b1 : (n : Int) ≤ (c : Int) := by omega
  rcases Nat.lt_or_ge n c with hlt | hge
  case' inr => obtain rfl : n = c := by omega
  case' inl => have hne1 : ¬ c = n := by omega
  all_goals
   go_enter Try.func61, Try.ntmps61
   go_wp2_with (at_builtin; go_loud (refine wpList_append_sharp _ rfl (.tmp 23) (.tmp 24) 26 rfl 0 36 i0 (.agg #[.string ⟨#[]⟩, .int .u32 0]) 2 24 Try.underlying26 hi0 hz0 hz1 hz2 rfl (by decide) _ n xs rfl (by exact ho) ⟨vb, 0, none⟩ 1 1 ys rfl (by omega) (by exact hnews) hy1 (by unfold maxLen; omega) (by omega) (Nat.zero_le _) ?_; intro v' w' h1 h2 h3))
   all_goals
    go_ret
    exact ⟨_, rfl, h1, h2, h3⟩

set_option maxHeartbeats 1000000 in
set_option maxRecDepth 100000 in
theorem insE_place (g cap n i vb : Nat) (xs rest ys : List Value) (w : World) (hl : xs.length = (n) * 2) (hin : i < n) (hn : n ≤ 1000000) (hnc : n + 1 ≤ cap) (hcm : cap ≤ maxLen) (hr : rest.length = (cap) * 2 - (n) * 2) (hne : vb ≠ g)
    (hyl : ys.length = 2) (hx1 : ∀ u ∈ xs, u.oneCell' = true) (hy1 : ∀ u ∈ ys, u.oneCell' = true) (hy : BlockAt w vb 36 ys) (hB : BlockAt w g 36 (xs ++ rest)) :
    Calls Try.prog 61 #[.slice (some ⟨g, 0, none⟩) n cap, .int .i64 i, .slice (some ⟨vb, 0, none⟩) 1 1] w fun e w' =>
      ∃ v', e = .returned v' ∧ w'.ownsRow 0 36 2 v' (n + 1) (xs.take ((i) * 2) ++ ys ++ xs.drop ((i) * 2)) ∧ Kept w w' (.slice (some ⟨g, 0, none⟩) n cap) v' := by
  obtain ⟨i0, hi0, hz0, hz1, hz2⟩ := info_parts Try.info36
  have hcm' := hcm
  unfold maxLen at hcm
  have hdl : (xs.drop ((i) * 2)).length = (n) * 2 - (i) * 2 := by rw [List.length_drop, hl]
  have hL := ins_place xs rest ys ((i) * 2) 2 (by omega) hyl (by omega)
  rw [hl] at hL
  obtain ⟨c1, hc1⟩ : ∃ c1, c1 = (xs ++ rest).take ((i) * 2 + 2) ++ xs.drop ((i) * 2) ++ (xs ++ rest).drop ((i) * 2 + 2 + ((n) * 2 - (i) * 2)) := ⟨_, rfl⟩
  rw [← hc1] at hL
  have hc1l : c1.length = (cap) * 2 := by
    rw [hc1]; simp only [List.length_append, List.length_take, List.length_drop, hl, hr]; omega
  have hov := ovlE w g vb hne ys (xs ++ rest) hy hB (by rw [List.length_append, hl]; omega)
  have hcp1 : ∀ ty dc sc, (Builtin.copy_ #[26, 26] ty #[.slice (some ⟨g, (i + 1) * 2, none⟩) (n + 1 - (i + 1)) dc, .slice (some ⟨g, (i) * 2, none⟩) (n + 1 - i) sc]).run Try.prog w.drew = .ok (goInt (Nat.min (n + 1 - i) (n + 1 - (i + 1)))) (w.drew.setRow g c1.toArray) := fun ty dc sc => by
    have hmin : Nat.min (n + 1 - i) (n + 1 - (i + 1)) = n - i := by simp only [Nat.min_def]; split <;> omega
    have h := run_copy_rowS (P := Try.prog) w.drew 26 26 ty 36 g ((i + 1) * 2) (n + 1 - (i + 1)) dc ⟨g, (i) * 2, none⟩ (n + 1 - i) sc (xs ++ rest) 36 (xs.drop ((i) * 2)) i0 2 Try.underlying26 hi0 hz1 (by exact hB) (by rw [hmin, hdl]; omega)
      (fun q u hq => by
        have hq2 := (List.getElem?_eq_some_iff.1 hq).1
        rw [hdl] at hq2
        rw [Addr.add_lit]
        show w.cell? _ = _
        rw [hB.cell, List.getElem?_append_left (by omega)]
        rwa [List.getElem?_drop] at hq) (by rw [hdl, List.length_append, hl, hr]; omega) (fun u hu => hx1 u (List.mem_of_mem_drop hu))
    rw [h, hc1, hdl, show (i + 1) * 2 = (i) * 2 + 2 by omega]
  have hB1 : BlockAt (w.drew.setRow g c1.toArray) g 36 c1 := BlockAt.row (w := w.drew) (by exact hB) _
  have hg1 : w.grownBy (w.drew.setRow g c1.toArray) (some g) := grown_trans (grown_drew (World.grownBy.refl w _)) (grown_row _ _ _)
  have hy2 : BlockAt (w.drew.setRow g c1.toArray) vb 36 ys := hy.grown hg1 (by intro e; injection e with e; exact hne e)
  obtain ⟨W1, hW1⟩ : ∃ W1, W1 = w.drew.setRow g c1.toArray := ⟨_, rfl⟩
  rw [← hW1] at hB1 hg1 hy2
  simp only [← hW1] at hcp1
  have hcp2 : ∀ ty dc, (Builtin.copy_ #[26, 26] ty #[.slice (some ⟨g, (i) * 2, none⟩) (n + 1 - i) dc, .slice (some ⟨vb, 0, none⟩) 1 1]).run Try.prog W1 = .ok (goInt (Nat.min 1 (n + 1 - i))) (W1.setRow g (xs.take ((i) * 2) ++ ys ++ xs.drop ((i) * 2) ++ rest.drop 2).toArray) := fun ty dc => by
    have hmin : Nat.min 1 (n + 1 - i) = 1 := by simp only [Nat.min_def]; split <;> omega
    have h := run_copy_rowS (P := Try.prog) W1 26 26 ty 36 g ((i) * 2) (n + 1 - i) dc ⟨vb, 0, none⟩ 1 1 c1 36 ys i0 2 Try.underlying26 hi0 hz1 hB1 (by rw [hmin, hyl])
      (fun q u hq => by rw [Addr.add_lit, Nat.zero_add, hy2.cell]; exact hq) (by rw [hyl, hc1l]; omega) hy1
    rw [h, hyl, hL]
  have hB2 : BlockAt (W1.setRow g (xs.take ((i) * 2) ++ ys ++ xs.drop ((i) * 2) ++ rest.drop 2).toArray) g 36 (xs.take ((i) * 2) ++ ys ++ xs.drop ((i) * 2) ++ rest.drop 2) := hB1.row _
  have hg2 : w.grownBy (W1.setRow g (xs.take ((i) * 2) ++ ys ++ xs.drop ((i) * 2) ++ rest.drop 2).toArray) (some g) := grown_trans hg1 (grown_row _ _ _)
  obtain ⟨W2, hW2⟩ : ∃ W2, W2 = W1.setRow g (xs.take ((i) * 2) ++ ys ++ xs.drop ((i) * 2) ++ rest.drop 2).toArray := ⟨_, rfl⟩
  rw [← hW2] at hB2 hg2
  simp only [← hW2] at hcp2
  have hown : W2.ownsRow 0 36 2 (.slice (some ⟨g, 0, none⟩) (n + 1) cap) (n + 1) (xs.take ((i) * 2) ++ ys ++ xs.drop ((i) * 2)) :=
    own_shut (by simp only [List.length_append, List.length_take, List.length_drop, hl, hyl]; omega) (Nat.zero_le _) hnc hcm' (by rw [List.length_drop, hr]; omega) hB2
  simp only [Nat.add_sub_add_right] at hcp1
  have HC1 : Hid (∀ ty dc sc, (Builtin.copy_ #[26, 26] ty #[.slice (some ⟨g, (i + 1) * 2, none⟩) (n - i) dc, .slice (some ⟨g, (i) * 2, none⟩) (n + 1 - i) sc]).run Try.prog w.drew = .ok (goInt (Nat.min (n + 1 - i) (n - i))) W1) := hcp1
  have HC2 : Hid (∀ ty dc, (Builtin.copy_ #[26, 26] ty #[.slice (some ⟨g, (i) * 2, none⟩) (n + 1 - i) dc, .slice (some ⟨vb, 0, none⟩) 1 1]).run Try.prog W1 = .ok (goInt (Nat.min 1 (n + 1 - i))) W2) := hcp2
  have HOWN : Hid (W2.ownsRow 0 36 2 (.slice (some ⟨g, 0, none⟩) (n + 1) cap) (n + 1) (xs.take ((i) * 2) ++ ys ++ xs.drop ((i) * 2))) := hown
  clear hcp1 hcp2 hown hL hB hB1 hB2 hg1 hW1 hW2 hc1 hc1l hdl hy hy1 hy2 hx1 hl hr
  have b1 : ((i : Int) == (n : Int)) = false := by simp; omega
  have b2 : (n : Int) + 1 ≤ (cap : Int) := by omega
  have b3 : ¬ cap = 0 := by omega
  have b4 : ¬ cap = i := by omega
  have b5 : ¬ cap = i + 1 := by omega
  have b6 : i + 1 ≤ n + 1 := by omega
  have b7 : i ≤ n + 1 := by omega
  have b8 : n + 1 ≤ cap := by omega
  have b9 : i ≤ n := by omega
  have b11 : (i : Int) + 1 ≤ (n : Int) + 1 := by omega
  have b14 : (i : Int) ≤ (n : Int) + 1 := by omega
  have hi6 : i ≤ 4000000000 := by omega
  have b12 : 0 ≤ (i : Int) + 1 := by omega
  have b13 : ((i : Int) + 1).toNat = i + 1 := by omega
  go_enter Try.func61, Try.ntmps61
  go_wp2
  have w1 := wrap64_s i hi6
  have w2 := wrapI_s i hi6
  go_region_law (refine step_known rfl (exec_copy (.tmp 73) (.tmp 76) 26 26 rfl ?_ ?_ (HC1.out _ (cap - (i + 1)) (cap - i))) ?_; simp [Act.eval, Act.put]; simp [Act.eval, Act.put])
  all_goals
    have hcp2 := HC2.out
    go_wp2
    go_ret
    exact ⟨_, rfl, HOWN.out, hg2, fun _ h => .inl h⟩

set_option maxHeartbeats 1000000 in
set_option maxRecDepth 100000 in
theorem insE_grow (g cap n i vb : Nat) (xs rest ys : List Value) (w : World) (hl : xs.length = (n) * 2) (hin : i < n) (hnc : n ≤ cap) (hfull : cap < n + 1) (hn : n ≤ 1000000) (_hr : rest.length = (cap) * 2 - (n) * 2)
    (hyl : ys.length = 2) (hx1 : ∀ u ∈ xs, u.oneCell' = true) (hy1 : ∀ u ∈ ys, u.oneCell' = true) (hy : BlockAt w vb 36 ys) (hB : BlockAt w g 36 (xs ++ rest)) :
    Calls Try.prog 61 #[.slice (some ⟨g, 0, none⟩) n cap, .int .i64 i, .slice (some ⟨vb, 0, none⟩) 1 1] w fun e w' =>
      ∃ v', e = .returned v' ∧ w'.ownsRow 0 36 2 v' (n + 1) (xs.take ((i) * 2) ++ ys ++ xs.drop ((i) * 2)) ∧ Kept w w' (.slice (some ⟨g, 0, none⟩) n cap) v' := by
  obtain ⟨i0, hi0, hz0, hz1, hz2⟩ := info_parts Try.info36
  have hdl : (xs.drop ((i) * 2)).length = (n) * 2 - (i) * 2 := by rw [List.length_drop, hl]
  have htl : (xs.take ((i) * 2)).length = i * i0.size := by rw [hz1, List.length_take, hl]; omega
  have hck : i + (n + 1 - i) = n + 1 := by omega
  have hold : (Builtin.firstCells i0.size i (.slice (some ⟨g, 0, none⟩) i cap)).run Try.prog w.drew = .ok (xs.take ((i) * 2)).toArray w.drew := by
    refine run_firstCells_some w.drew i0.size i ⟨g, 0, none⟩ i cap (xs.take ((i) * 2)) htl (fun q u hq => ?_)
    have hq2 := (List.getElem?_eq_some_iff.1 hq).1
    rw [List.length_take, hl] at hq2
    rw [Addr.add_lit, Nat.zero_add]
    show w.cell? _ = _
    rw [hB.cell, List.getElem?_append_left (by omega)]
    rw [List.getElem?_take] at hq
    split at hq
    · exact hq
    · cases hq
  have happ := fun ty => Lib.run_append_grow_zeros (P := Try.prog) w 26 3 ty 36 i0 (.agg #[.string ⟨#[]⟩, .int .u32 0]) .i64 .i64 Try.underlying26 Try.underlying3 hi0 hz0 (some ⟨g, 0, none⟩) i cap (xs.take ((i) * 2)) hold (n + 1 - i) (by omega) (by omega) (by omega) (by omega)
      (by rw [hz2]; omega) (by rw [hck]; exact growslice_fits (by omega) (by rw [hz2]; omega))
  rw [hck] at happ
  have hGn := grownCap_ge w (n + 1) cap 36
  have hGm := grownCap_le_maxLen w (n + 1) cap 36 (by unfold maxLen; omega)
  obtain ⟨G, hG⟩ : ∃ G, G = grownCap w (n + 1) cap 36 := ⟨_, rfl⟩
  rw [← hG] at hGn hGm
  simp only [← hG] at happ
  have hGm' := hGm
  unfold maxLen at hGm
  obtain ⟨Z, hZ⟩ : ∃ Z, Z = (Builtin.zeroCells (.agg #[.string ⟨#[]⟩, .int .u32 0] : Value).cells (n + 1 - i)).toList ++ (Builtin.zeroCells (.agg #[.string ⟨#[]⟩, .int .u32 0] : Value).cells (G - (n + 1))).toList := ⟨_, rfl⟩
  have hZl : Z.length = (G - i) * 2 := by
    rw [hZ, List.length_append, Array.length_toList, Array.length_toList, size_zeroCells, size_zeroCells]
    show _ * 2 + _ * 2 = _
    omega
  have eZ : (xs.take ((i) * 2)).toArray ++ Builtin.zeroCells (.agg #[.string ⟨#[]⟩, .int .u32 0] : Value).cells (n + 1 - i) ++ Builtin.zeroCells (.agg #[.string ⟨#[]⟩, .int .u32 0] : Value).cells (G - (n + 1)) = (xs.take ((i) * 2) ++ Z).toArray := by
    apply Array.ext'
    rw [hZ]
    simp
  rw [eZ] at happ
  have hL := ins_grow xs ys Z ((i) * 2) 2 (by omega) hyl (by omega)
  rw [hl] at hL
  have hB0 : BlockAt (w.drew.alloc (.cells (xs.take ((i) * 2) ++ Z).toArray 36)) w.heap.size 36 (xs.take ((i) * 2) ++ Z) := blockAt_new w.drew 36 _
  have hy0 : BlockAt (w.drew.alloc (.cells (xs.take ((i) * 2) ++ Z).toArray 36)) vb 36 ys := BlockAt.alloc (by exact hy) _
  have hBx : BlockAt (w.drew.alloc (.cells (xs.take ((i) * 2) ++ Z).toArray 36)) g 36 (xs ++ rest) := BlockAt.alloc (by exact hB) _
  have hgr0 : w.grownBy (w.drew.alloc (.cells (xs.take ((i) * 2) ++ Z).toArray 36)) none := grown_trans (grown_drew (World.grownBy.refl w _)) (World.grownBy_alloc _ _ _)
  obtain ⟨W0, hW0⟩ : ∃ W0, W0 = w.drew.alloc (.cells (xs.take ((i) * 2) ++ Z).toArray 36) := ⟨_, rfl⟩
  rw [← hW0] at hB0 hy0 hBx hgr0
  simp only [← hW0] at happ
  have hgl := hB.lt
  have hvl := hy.lt
  obtain ⟨g2, hg2⟩ : ∃ g2, g2 = w.heap.size := ⟨_, rfl⟩
  rw [← hg2] at hB0 hgl hvl
  simp only [← hg2] at happ
  obtain ⟨c1, hc1⟩ : ∃ c1, c1 = (xs.take ((i) * 2) ++ Z).take ((i) * 2) ++ ys ++ (xs.take ((i) * 2) ++ Z).drop ((i) * 2 + 2) := ⟨_, rfl⟩
  rw [← hc1] at hL
  have hc1l : c1.length = G * 2 := by
    rw [hc1]; simp only [List.length_append, List.length_take, List.length_drop, hl, hyl, hZl]; omega
  have hcp1 : ∀ ty dc, (Builtin.copy_ #[26, 26] ty #[.slice (some ⟨g2, (i) * 2, none⟩) (n + 1 - i) dc, .slice (some ⟨vb, 0, none⟩) 1 1]).run Try.prog W0 = .ok (goInt (Nat.min 1 (n + 1 - i))) (W0.setRow g2 c1.toArray) := fun ty dc => by
    have hmin : Nat.min 1 (n + 1 - i) = 1 := by simp only [Nat.min_def]; split <;> omega
    have h := run_copy_rowS (P := Try.prog) W0 26 26 ty 36 g2 ((i) * 2) (n + 1 - i) dc ⟨vb, 0, none⟩ 1 1 (xs.take ((i) * 2) ++ Z) 36 ys i0 2 Try.underlying26 hi0 hz1 hB0 (by rw [hmin, hyl])
      (fun q u hq => by rw [Addr.add_lit, Nat.zero_add, hy0.cell]; exact hq) (by simp only [hyl, List.length_append, List.length_take, hl, hZl]; omega) hy1
    rw [h, hyl, hc1]
  have hB1 : BlockAt (W0.setRow g2 c1.toArray) g2 36 c1 := hB0.row _
  have hBx1 : BlockAt (W0.setRow g2 c1.toArray) g 36 (xs ++ rest) := hBx.grown (grown_row _ _ _) (by intro e; injection e with e; omega)
  obtain ⟨W1, hW1⟩ : ∃ W1, W1 = W0.setRow g2 c1.toArray := ⟨_, rfl⟩
  have hgr1 : W0.grownBy W1 (some g2) := by rw [hW1]; exact grown_row _ _ _
  rw [← hW1] at hB1 hBx1
  simp only [← hW1] at hcp1
  have hcp2 : ∀ ty dc sc, (Builtin.copy_ #[26, 26] ty #[.slice (some ⟨g2, (i + 1) * 2, none⟩) (n + 1 - (i + 1)) dc, .slice (some ⟨g, (i) * 2, none⟩) (n - i) sc]).run Try.prog W1.drew = .ok (goInt (Nat.min (n - i) (n + 1 - (i + 1)))) (W1.drew.setRow g2 (xs.take ((i) * 2) ++ ys ++ xs.drop ((i) * 2) ++ Z.drop (2 + ((n) * 2 - (i) * 2))).toArray) := fun ty dc sc => by
    have hmin : Nat.min (n - i) (n + 1 - (i + 1)) = n - i := by simp only [Nat.min_def]; split <;> omega
    have h := run_copy_rowS (P := Try.prog) W1.drew 26 26 ty 36 g2 ((i + 1) * 2) (n + 1 - (i + 1)) dc ⟨g, (i) * 2, none⟩ (n - i) sc c1 36 (xs.drop ((i) * 2)) i0 2 Try.underlying26 hi0 hz1 (by exact hB1) (by rw [hmin, hdl]; omega)
      (fun q u hq => by
        have hq2 := (List.getElem?_eq_some_iff.1 hq).1
        rw [hdl] at hq2
        rw [Addr.add_lit]
        show W1.cell? _ = _
        rw [hBx1.cell, List.getElem?_append_left (by omega)]
        rwa [List.getElem?_drop] at hq) (by rw [hdl, hc1l]; omega) (fun u hu => hx1 u (List.mem_of_mem_drop hu))
    rw [h, hdl, show (i + 1) * 2 = (i) * 2 + 2 by omega, hL]
  have hB2 : BlockAt (W1.drew.setRow g2 (xs.take ((i) * 2) ++ ys ++ xs.drop ((i) * 2) ++ Z.drop (2 + ((n) * 2 - (i) * 2))).toArray) g2 36 (xs.take ((i) * 2) ++ ys ++ xs.drop ((i) * 2) ++ Z.drop (2 + ((n) * 2 - (i) * 2))) := BlockAt.row (w := W1.drew) (by exact hB1) _
  obtain ⟨W2, hW2⟩ : ∃ W2, W2 = W1.drew.setRow g2 (xs.take ((i) * 2) ++ ys ++ xs.drop ((i) * 2) ++ Z.drop (2 + ((n) * 2 - (i) * 2))).toArray := ⟨_, rfl⟩
  have hgr2 : W1.grownBy W2 (some g2) := by rw [hW2]; exact grown_trans (grown_drew (World.grownBy.refl W1 _)) (grown_row _ _ _)
  rw [← hW2] at hB2
  simp only [← hW2] at hcp2
  have hown : W2.ownsRow 0 36 2 (.slice (some ⟨g2, 0, none⟩) (n + 1) G) (n + 1) (xs.take ((i) * 2) ++ ys ++ xs.drop ((i) * 2)) :=
    own_shut (by simp only [List.length_append, List.length_take, List.length_drop, hl, hyl]; omega) (Nat.zero_le _) hGn hGm' (by rw [List.length_drop, hZl]; omega) hB2
  have hK : Kept w W2 (.slice (some ⟨g, 0, none⟩) n cap) (.slice (some ⟨g2, 0, none⟩) (n + 1) G) := by
    refine ⟨⟨(hgr2.os.trans hgr1.os).trans hgr0.os, (hgr2.tape.trans hgr1.tape).trans hgr0.tape, (hgr2.output.trans hgr1.output).trans hgr0.output, Nat.le_trans hgr0.size (Nat.le_trans hgr1.size hgr2.size), fun k hk _ => ?_⟩, fun k hk => .inr (by simp [Value.ownBlock] at hk; omega)⟩
    have h0 := hgr0.size
    have h1 := hgr1.size
    rw [hgr2.block k (by omega) (by intro e; injection e with e; omega), hgr1.block k (by omega) (by intro e; injection e with e; omega), hgr0.block k hk (by simp)]
  have HAP : Hid (∀ ty, (Builtin.append_ #[26, 3] ty #[.slice (some ⟨g, 0, none⟩) i cap, .int .i64 ((n + 1 - i : Nat) : Int)]).run Try.prog w = .ok (.slice (some ⟨g2, 0, none⟩) (n + 1) G) W0) := happ
  have HC1 : Hid (∀ ty dc, (Builtin.copy_ #[26, 26] ty #[.slice (some ⟨g2, (i) * 2, none⟩) (n + 1 - i) dc, .slice (some ⟨vb, 0, none⟩) 1 1]).run Try.prog W0 = .ok (goInt (Nat.min 1 (n + 1 - i))) W1) := hcp1
  simp only [Nat.add_sub_add_right] at hcp2
  have HC2 : Hid (∀ ty dc sc, (Builtin.copy_ #[26, 26] ty #[.slice (some ⟨g2, (i + 1) * 2, none⟩) (n - i) dc, .slice (some ⟨g, (i) * 2, none⟩) (n - i) sc]).run Try.prog W1.drew = .ok (goInt (Nat.min (n - i) (n - i))) W2) := hcp2
  have HOWN : Hid (W2.ownsRow 0 36 2 (.slice (some ⟨g2, 0, none⟩) (n + 1) G) (n + 1) (xs.take ((i) * 2) ++ ys ++ xs.drop ((i) * 2))) := hown
  have HK : Hid (Kept w W2 (.slice (some ⟨g, 0, none⟩) n cap) (.slice (some ⟨g2, 0, none⟩) (n + 1) G)) := hK
  clear hK happ hcp1 hcp2 hown hL hB hB0 hBx hBx1 hB1 hB2 hgr0 hgr1 hgr2 hW0 hW1 hW2 hc1 hc1l hdl htl hold hy hy0 hy1 hx1 hl _hr eZ hZl hZ hG hg2 hck
  have b1 : ((i : Int) == (n : Int)) = false := by simp; omega
  have b2 : (cap : Int) < (n : Int) + 1 := by omega
  have b3 : ¬ cap = 0 := by omega
  have b4 : ¬ cap = i := by omega
  have b5 : ¬ G = i + 1 := by omega
  have b6 : i + 1 ≤ n + 1 := by omega
  have b7 : i ≤ n + 1 := by omega
  have b8 : ¬ G = i := by omega
  have b9 : i ≤ n := by omega
  have b10 : i ≤ cap := by omega
  have b11 : (i : Int) + 1 ≤ (n : Int) + 1 := by omega
  have b14 : (i : Int) ≤ (n : Int) + 1 := by omega
  have hi6 : i ≤ 4000000000 := by omega
  have b12 : 0 ≤ (i : Int) + 1 := by omega
  have b13 : ((i : Int) + 1).toNat = i + 1 := by omega
  have hcp1 := HC1.out
  have e10 : (n : Int) + 1 - (i : Int) = ((n + 1 - i : Nat) : Int) := by omega
  go_enter Try.func61, Try.ntmps61
  go_wp2_with (at_builtin; refine Lib.wpList_append_run _ rfl (.tmp 34) (.tmp 39) 26 3 rfl _ _ rfl rfl _ _ (HAP.out _) ?_)
  have w1 := wrap64_s i hi6
  have w2 := wrapI_s i hi6
  go_region_law (refine step_known rfl (exec_copy (.tmp 50) (.tmp 53) 26 26 rfl ?_ ?_ (HC2.out _ (G - (i + 1)) (cap - i))) ?_; simp [Act.eval, Act.put]; simp [Act.eval, Act.put])
  all_goals
    go_wp2
    go_ret
    exact ⟨_, rfl, HOWN.out, HK.out⟩

/-- slices.Insert of one element, whatever way it goes. -/
theorem insE_some (v : Value) (n i vb : Nat) (xs ys : List Value) (w : World) (ho : w.ownsRow 0 36 2 v n xs) (hi : i ≤ n) (hn : n ≤ 1000000) (hne : v.ownBlock ≠ some vb) (hyl : ys.length = 2)
    (hx1 : ∀ u ∈ xs, u.oneCell' = true) (hy1 : ∀ u ∈ ys, u.oneCell' = true) (hy : BlockAt w vb 36 ys) :
    Calls Try.prog 61 #[v, .int .i64 i, .slice (some ⟨vb, 0, none⟩) 1 1] w fun e w' =>
      ∃ v', e = .returned v' ∧ w'.ownsRow 0 36 2 v' (n + 1) (xs.take ((i) * 2) ++ ys ++ xs.drop ((i) * 2)) ∧ Kept w w' v v' := by
  rcases Nat.lt_or_ge i n with hlt | hge
  · rcases (own_open ho).2 with ⟨rfl, h0, _⟩ | ⟨g, cap, rest, rfl, _, hnc, hcm, hr, hB⟩
    · omega
    · have hg : vb ≠ g := fun e => hne (by rw [e]; rfl)
      rcases Nat.lt_or_ge n cap with h1 | h1
      · exact insE_place g cap n i vb xs rest ys w (by rw [ho.1]; try omega) hlt hn h1 hcm (by rw [hr]; try omega) hg hyl hx1 hy1 hy hB
      · exact insE_grow g cap n i vb xs rest ys w (by rw [ho.1]; try omega) hlt hnc (by omega) hn (by rw [hr]; try omega) hyl hx1 hy1 hy hB
  · obtain rfl : i = n := by omega
    have e1 : xs.take ((i) * 2) = xs := List.take_of_length_le (by rw [ho.1]; omega)
    have e2 : xs.drop ((i) * 2) = [] := List.drop_eq_nil_of_le (by rw [ho.1]; omega)
    have := insE_end v i vb xs ys w ho hn hyl hy1 hy
    rw [e1, e2, List.append_nil]
    exact this

theorem ovlC (w : World) (g vb : Nat) (hne : vb ≠ g) (ys cur : List Value) (hy : BlockAt w vb 64 ys) (hB : BlockAt w g 64 cur) (hc : cur.length ≠ 0) (o lb cb : Nat) :
    (callFunc 87 #[.slice (some ⟨vb, 0, none⟩) 1 1, .slice (some ⟨g, o, none⟩) lb cb]).run Try.prog w = .ok (.value (.bool false)) w := by
  obtain ⟨i0, hi0, hz0, hz1, hz2⟩ := info_parts Try.info64
  have hsz : ∀ w, (Go.sizeOf 64).run Try.prog w = .ok 1 w := fun w => by simp [Go.sizeOf, typeInfo, hi0, hz1]
  have hsa : w.shape? vb = some (64, ys.length) := by
    have : w.heap[vb]? = some (.cells ys.toArray 64 (0, 0)) := hy
    simp [World.shape?, this]
  have hsb : w.shape? g = some (64, cur.length) := by
    have : w.heap[g]? = some (.cells cur.toArray 64 (0, 0)) := hB
    simp [World.shape?, this]
  rw [run_callFunc_extern Try.func87 (by kernel_rfl) (by kernel_rfl) (by kernel_rfl) (e := Extern.SlicesOverlaps.overlaps #[87, 87] #[4]) (by kernel_rfl),
    Lib.run_overlaps_apart w 87 4 64 Try.underlying87 1 hsz ⟨vb, 0, none⟩ ⟨g, o, none⟩ 1 1 lb cb hne 64 64 _ _ hsa hsb hc (hy.frozen 0) (hy.frozen _)]
  rfl


set_option maxHeartbeats 1000000 in
set_option maxRecDepth 100000 in
theorem insC_end (v : Value) (n vb : Nat) (xs ys : List Value) (w : World) (ho : w.ownsRow 0 64 1 v n xs) (hn : n ≤ 1000000) (hyl : ys.length = 1) (hy1 : ∀ u ∈ ys, u.oneCell' = true) (hy : BlockAt w vb 64 ys) :
    Calls Try.prog 73 #[v, .int .i64 n, .slice (some ⟨vb, 0, none⟩) 1 1] w fun e w' =>
      ∃ v', e = .returned v' ∧ w'.ownsRow 0 64 1 v' (n + 1) (xs ++ ys) ∧ Kept w w' v v' := by
  obtain ⟨i0, hi0, hz0, hz1, hz2⟩ := info_parts Try.info64
  have hnews : ∀ q u, ys[q]? = some u → w.cell? ((⟨vb, 0, none⟩ : Addr).add q) = some u := fun q u hq => by
    rw [Addr.add_lit, Nat.zero_add, hy.cell]; exact hq
  have hv : ∃ a c, v = .slice a n c ∧ n ≤ c ∧ (c = 0 ∨ ∃ g, a = some ⟨g, 0, none⟩) ∧ c ≤ maxLen := by
    rcases ho.2 with ⟨rfl, rfl⟩ | ⟨g, cap, cur, rfl, _, _, hnc, hcm, _⟩
    · exact ⟨none, 0, rfl, Nat.le_refl _, .inl rfl, by unfold maxLen; omega⟩
    · exact ⟨_, cap, rfl, hnc, .inr ⟨g, rfl⟩, hcm⟩
  obtain ⟨a, c, rfl, hnc, hac, hcm⟩ := hv
  unfold maxLen at hcm
  have b1 : (n : Int) ≤ (c : Int) := by omega
  rcases Nat.lt_or_ge n c with hlt | hge
  case' inr => obtain rfl : n = c := by omega
  case' inl => have hne1 : ¬ c = n := by omega
  all_goals
   go_enter Try.func73, Try.ntmps73
   go_wp2_with (at_builtin; go_loud (refine wpList_append_sharp _ rfl (.tmp 23) (.tmp 24) 87 rfl 0 64 i0 (.pointer none) 1 8 Try.underlying87 hi0 hz0 hz1 hz2 rfl (by decide) _ n xs rfl (by exact ho) ⟨vb, 0, none⟩ 1 1 ys rfl (by omega) (by exact hnews) hy1 (by unfold maxLen; omega) (by omega) (Nat.zero_le _) ?_; intro v' w' h1 h2 h3))
   all_goals
    go_ret
    exact ⟨_, rfl, h1, h2, h3⟩

set_option maxHeartbeats 1000000 in
set_option maxRecDepth 100000 in
theorem insC_place (g cap n i vb : Nat) (xs rest ys : List Value) (w : World) (hl : xs.length = (n)) (hin : i < n) (hn : n ≤ 1000000) (hnc : n + 1 ≤ cap) (hcm : cap ≤ maxLen) (hr : rest.length = (cap) - (n)) (hne : vb ≠ g)
    (hyl : ys.length = 1) (hx1 : ∀ u ∈ xs, u.oneCell' = true) (hy1 : ∀ u ∈ ys, u.oneCell' = true) (hy : BlockAt w vb 64 ys) (hB : BlockAt w g 64 (xs ++ rest)) :
    Calls Try.prog 73 #[.slice (some ⟨g, 0, none⟩) n cap, .int .i64 i, .slice (some ⟨vb, 0, none⟩) 1 1] w fun e w' =>
      ∃ v', e = .returned v' ∧ w'.ownsRow 0 64 1 v' (n + 1) (xs.take ((i)) ++ ys ++ xs.drop ((i))) ∧ Kept w w' (.slice (some ⟨g, 0, none⟩) n cap) v' := by
  obtain ⟨i0, hi0, hz0, hz1, hz2⟩ := info_parts Try.info64
  have hcm' := hcm
  unfold maxLen at hcm
  have hdl : (xs.drop ((i))).length = (n) - (i) := by rw [List.length_drop, hl]
  have hL := ins_place xs rest ys ((i)) 1 (by omega) hyl (by omega)
  rw [hl] at hL
  obtain ⟨c1, hc1⟩ : ∃ c1, c1 = (xs ++ rest).take ((i) + 1) ++ xs.drop ((i)) ++ (xs ++ rest).drop ((i) + 1 + ((n) - (i))) := ⟨_, rfl⟩
  rw [← hc1] at hL
  have hc1l : c1.length = (cap) := by
    rw [hc1]; simp only [List.length_append, List.length_take, List.length_drop, hl, hr]; omega
  have hov := ovlC w g vb hne ys (xs ++ rest) hy hB (by rw [List.length_append, hl]; omega)
  have hcp1 : ∀ ty dc sc, (Builtin.copy_ #[87, 87] ty #[.slice (some ⟨g, (i + 1), none⟩) (n + 1 - (i + 1)) dc, .slice (some ⟨g, (i), none⟩) (n + 1 - i) sc]).run Try.prog w.drew = .ok (goInt (Nat.min (n + 1 - i) (n + 1 - (i + 1)))) (w.drew.setRow g c1.toArray) := fun ty dc sc => by
    have hmin : Nat.min (n + 1 - i) (n + 1 - (i + 1)) = n - i := by simp only [Nat.min_def]; split <;> omega
    have h := run_copy_rowS (P := Try.prog) w.drew 87 87 ty 64 g ((i + 1)) (n + 1 - (i + 1)) dc ⟨g, (i), none⟩ (n + 1 - i) sc (xs ++ rest) 64 (xs.drop ((i))) i0 1 Try.underlying87 hi0 hz1 (by exact hB) (by rw [hmin, hdl]; omega)
      (fun q u hq => by
        have hq2 := (List.getElem?_eq_some_iff.1 hq).1
        rw [hdl] at hq2
        rw [Addr.add_lit]
        show w.cell? _ = _
        rw [hB.cell, List.getElem?_append_left (by omega)]
        rwa [List.getElem?_drop] at hq) (by rw [hdl, List.length_append, hl, hr]; omega) (fun u hu => hx1 u (List.mem_of_mem_drop hu))
    rw [h, hc1, hdl, show (i + 1) = (i) + 1 by omega]
  have hB1 : BlockAt (w.drew.setRow g c1.toArray) g 64 c1 := BlockAt.row (w := w.drew) (by exact hB) _
  have hg1 : w.grownBy (w.drew.setRow g c1.toArray) (some g) := grown_trans (grown_drew (World.grownBy.refl w _)) (grown_row _ _ _)
  have hy2 : BlockAt (w.drew.setRow g c1.toArray) vb 64 ys := hy.grown hg1 (by intro e; injection e with e; exact hne e)
  obtain ⟨W1, hW1⟩ : ∃ W1, W1 = w.drew.setRow g c1.toArray := ⟨_, rfl⟩
  rw [← hW1] at hB1 hg1 hy2
  simp only [← hW1] at hcp1
  have hcp2 : ∀ ty dc, (Builtin.copy_ #[87, 87] ty #[.slice (some ⟨g, (i), none⟩) (n + 1 - i) dc, .slice (some ⟨vb, 0, none⟩) 1 1]).run Try.prog W1 = .ok (goInt (Nat.min 1 (n + 1 - i))) (W1.setRow g (xs.take ((i)) ++ ys ++ xs.drop ((i)) ++ rest.drop 1).toArray) := fun ty dc => by
    have hmin : Nat.min 1 (n + 1 - i) = 1 := by simp only [Nat.min_def]; split <;> omega
    have h := run_copy_rowS (P := Try.prog) W1 87 87 ty 64 g ((i)) (n + 1 - i) dc ⟨vb, 0, none⟩ 1 1 c1 64 ys i0 1 Try.underlying87 hi0 hz1 hB1 (by rw [hmin, hyl])
      (fun q u hq => by rw [Addr.add_lit, Nat.zero_add, hy2.cell]; exact hq) (by rw [hyl, hc1l]; omega) hy1
    rw [h, hyl, hL]
  have hB2 : BlockAt (W1.setRow g (xs.take ((i)) ++ ys ++ xs.drop ((i)) ++ rest.drop 1).toArray) g 64 (xs.take ((i)) ++ ys ++ xs.drop ((i)) ++ rest.drop 1) := hB1.row _
  have hg2 : w.grownBy (W1.setRow g (xs.take ((i)) ++ ys ++ xs.drop ((i)) ++ rest.drop 1).toArray) (some g) := grown_trans hg1 (grown_row _ _ _)
  obtain ⟨W2, hW2⟩ : ∃ W2, W2 = W1.setRow g (xs.take ((i)) ++ ys ++ xs.drop ((i)) ++ rest.drop 1).toArray := ⟨_, rfl⟩
  rw [← hW2] at hB2 hg2
  simp only [← hW2] at hcp2
  have hown : W2.ownsRow 0 64 1 (.slice (some ⟨g, 0, none⟩) (n + 1) cap) (n + 1) (xs.take ((i)) ++ ys ++ xs.drop ((i))) :=
    own_shut (by simp only [List.length_append, List.length_take, List.length_drop, hl, hyl]; omega) (Nat.zero_le _) hnc hcm' (by rw [List.length_drop, hr]; omega) hB2
  simp only [Nat.add_sub_add_right] at hcp1
  have HC1 : Hid (∀ ty dc sc, (Builtin.copy_ #[87, 87] ty #[.slice (some ⟨g, (i + 1), none⟩) (n - i) dc, .slice (some ⟨g, (i), none⟩) (n + 1 - i) sc]).run Try.prog w.drew = .ok (goInt (Nat.min (n + 1 - i) (n - i))) W1) := hcp1
  have HC2 : Hid (∀ ty dc, (Builtin.copy_ #[87, 87] ty #[.slice (some ⟨g, (i), none⟩) (n + 1 - i) dc, .slice (some ⟨vb, 0, none⟩) 1 1]).run Try.prog W1 = .ok (goInt (Nat.min 1 (n + 1 - i))) W2) := hcp2
  have HOWN : Hid (W2.ownsRow 0 64 1 (.slice (some ⟨g, 0, none⟩) (n + 1) cap) (n + 1) (xs.take ((i)) ++ ys ++ xs.drop ((i)))) := hown
  clear hcp1 hcp2 hown hL hB hB1 hB2 hg1 hW1 hW2 hc1 hc1l hdl hy hy1 hy2 hx1 hl hr
  have b1 : ((i : Int) == (n : Int)) = false := by simp; omega
  have b2 : (n : Int) + 1 ≤ (cap : Int) := by omega
  have b3 : ¬ cap = 0 := by omega
  have b4 : ¬ cap = i := by omega
  have b5 : ¬ cap = i + 1 := by omega
  have b6 : i + 1 ≤ n + 1 := by omega
  have b7 : i ≤ n + 1 := by omega
  have b8 : n + 1 ≤ cap := by omega
  have b9 : i ≤ n := by omega
  have b11 : (i : Int) + 1 ≤ (n : Int) + 1 := by omega
  have b14 : (i : Int) ≤ (n : Int) + 1 := by omega
  have hi6 : i ≤ 4000000000 := by omega
  have b12 : 0 ≤ (i : Int) + 1 := by omega
  have b13 : ((i : Int) + 1).toNat = i + 1 := by omega
  go_enter Try.func73, Try.ntmps73
  go_wp2
  have w1 := wrap64_s i hi6
  have w2 := wrapI_s i hi6
  go_region_law (refine step_known rfl (exec_copy (.tmp 73) (.tmp 76) 87 87 rfl ?_ ?_ (HC1.out _ (cap - (i + 1)) (cap - i))) ?_; simp [Act.eval, Act.put]; simp [Act.eval, Act.put])
  all_goals
    have hcp2 := HC2.out
    go_wp2
    go_ret
    exact ⟨_, rfl, HOWN.out, hg2, fun _ h => .inl h⟩

set_option maxHeartbeats 1000000 in
set_option maxRecDepth 100000 in
theorem insC_grow (g cap n i vb : Nat) (xs rest ys : List Value) (w : World) (hl : xs.length = (n)) (hin : i < n) (hnc : n ≤ cap) (hfull : cap < n + 1) (hn : n ≤ 1000000) (_hr : rest.length = (cap) - (n))
    (hyl : ys.length = 1) (hx1 : ∀ u ∈ xs, u.oneCell' = true) (hy1 : ∀ u ∈ ys, u.oneCell' = true) (hy : BlockAt w vb 64 ys) (hB : BlockAt w g 64 (xs ++ rest)) :
    Calls Try.prog 73 #[.slice (some ⟨g, 0, none⟩) n cap, .int .i64 i, .slice (some ⟨vb, 0, none⟩) 1 1] w fun e w' =>
      ∃ v', e = .returned v' ∧ w'.ownsRow 0 64 1 v' (n + 1) (xs.take ((i)) ++ ys ++ xs.drop ((i))) ∧ Kept w w' (.slice (some ⟨g, 0, none⟩) n cap) v' := by
  obtain ⟨i0, hi0, hz0, hz1, hz2⟩ := info_parts Try.info64
  have hdl : (xs.drop ((i))).length = (n) - (i) := by rw [List.length_drop, hl]
  have htl : (xs.take ((i))).length = i * i0.size := by rw [hz1, List.length_take, hl]; omega
  have hck : i + (n + 1 - i) = n + 1 := by omega
  have hold : (Builtin.firstCells i0.size i (.slice (some ⟨g, 0, none⟩) i cap)).run Try.prog w.drew = .ok (xs.take ((i))).toArray w.drew := by
    refine run_firstCells_some w.drew i0.size i ⟨g, 0, none⟩ i cap (xs.take ((i))) htl (fun q u hq => ?_)
    have hq2 := (List.getElem?_eq_some_iff.1 hq).1
    rw [List.length_take, hl] at hq2
    rw [Addr.add_lit, Nat.zero_add]
    show w.cell? _ = _
    rw [hB.cell, List.getElem?_append_left (by omega)]
    rw [List.getElem?_take] at hq
    split at hq
    · exact hq
    · cases hq
  have happ := fun ty => Lib.run_append_grow_zeros (P := Try.prog) w 87 3 ty 64 i0 (.pointer none) .i64 .i64 Try.underlying87 Try.underlying3 hi0 hz0 (some ⟨g, 0, none⟩) i cap (xs.take ((i))) hold (n + 1 - i) (by omega) (by omega) (by omega) (by omega)
      (by rw [hz2]; omega) (by rw [hck]; exact growslice_fits (by omega) (by rw [hz2]; omega))
  rw [hck] at happ
  have hGn := grownCap_ge w (n + 1) cap 64
  have hGm := grownCap_le_maxLen w (n + 1) cap 64 (by unfold maxLen; omega)
  obtain ⟨G, hG⟩ : ∃ G, G = grownCap w (n + 1) cap 64 := ⟨_, rfl⟩
  rw [← hG] at hGn hGm
  simp only [← hG] at happ
  have hGm' := hGm
  unfold maxLen at hGm
  obtain ⟨Z, hZ⟩ : ∃ Z, Z = (Builtin.zeroCells (.pointer none : Value).cells (n + 1 - i)).toList ++ (Builtin.zeroCells (.pointer none : Value).cells (G - (n + 1))).toList := ⟨_, rfl⟩
  have hZl : Z.length = (G - i) * 1 := by
    rw [hZ, List.length_append, Array.length_toList, Array.length_toList, size_zeroCells, size_zeroCells]
    show _ * 1 + _ * 1 = _
    omega
  have eZ : (xs.take ((i))).toArray ++ Builtin.zeroCells (.pointer none : Value).cells (n + 1 - i) ++ Builtin.zeroCells (.pointer none : Value).cells (G - (n + 1)) = (xs.take ((i)) ++ Z).toArray := by
    apply Array.ext'
    rw [hZ]
    simp
  rw [eZ] at happ
  have hL := ins_grow xs ys Z ((i)) 1 (by omega) hyl (by omega)
  rw [hl] at hL
  have hB0 : BlockAt (w.drew.alloc (.cells (xs.take ((i)) ++ Z).toArray 64)) w.heap.size 64 (xs.take ((i)) ++ Z) := blockAt_new w.drew 64 _
  have hy0 : BlockAt (w.drew.alloc (.cells (xs.take ((i)) ++ Z).toArray 64)) vb 64 ys := BlockAt.alloc (by exact hy) _
  have hBx : BlockAt (w.drew.alloc (.cells (xs.take ((i)) ++ Z).toArray 64)) g 64 (xs ++ rest) := BlockAt.alloc (by exact hB) _
  have hgr0 : w.grownBy (w.drew.alloc (.cells (xs.take ((i)) ++ Z).toArray 64)) none := grown_trans (grown_drew (World.grownBy.refl w _)) (World.grownBy_alloc _ _ _)
  obtain ⟨W0, hW0⟩ : ∃ W0, W0 = w.drew.alloc (.cells (xs.take ((i)) ++ Z).toArray 64) := ⟨_, rfl⟩
  rw [← hW0] at hB0 hy0 hBx hgr0
  simp only [← hW0] at happ
  have hgl := hB.lt
  have hvl := hy.lt
  obtain ⟨g2, hg2⟩ : ∃ g2, g2 = w.heap.size := ⟨_, rfl⟩
  rw [← hg2] at hB0 hgl hvl
  simp only [← hg2] at happ
  obtain ⟨c1, hc1⟩ : ∃ c1, c1 = (xs.take ((i)) ++ Z).take ((i)) ++ ys ++ (xs.take ((i)) ++ Z).drop ((i) + 1) := ⟨_, rfl⟩
  rw [← hc1] at hL
  have hc1l : c1.length = G * 1 := by
    rw [hc1]; simp only [List.length_append, List.length_take, List.length_drop, hl, hyl, hZl]; omega
  have hcp1 : ∀ ty dc, (Builtin.copy_ #[87, 87] ty #[.slice (some ⟨g2, (i), none⟩) (n + 1 - i) dc, .slice (some ⟨vb, 0, none⟩) 1 1]).run Try.prog W0 = .ok (goInt (Nat.min 1 (n + 1 - i))) (W0.setRow g2 c1.toArray) := fun ty dc => by
    have hmin : Nat.min 1 (n + 1 - i) = 1 := by simp only [Nat.min_def]; split <;> omega
    have h := run_copy_rowS (P := Try.prog) W0 87 87 ty 64 g2 ((i)) (n + 1 - i) dc ⟨vb, 0, none⟩ 1 1 (xs.take ((i)) ++ Z) 64 ys i0 1 Try.underlying87 hi0 hz1 hB0 (by rw [hmin, hyl])
      (fun q u hq => by rw [Addr.add_lit, Nat.zero_add, hy0.cell]; exact hq) (by simp only [hyl, List.length_append, List.length_take, hl, hZl]; omega) hy1
    rw [h, hyl, hc1]
  have hB1 : BlockAt (W0.setRow g2 c1.toArray) g2 64 c1 := hB0.row _
  have hBx1 : BlockAt (W0.setRow g2 c1.toArray) g 64 (xs ++ rest) := hBx.grown (grown_row _ _ _) (by intro e; injection e with e; omega)
  obtain ⟨W1, hW1⟩ : ∃ W1, W1 = W0.setRow g2 c1.toArray := ⟨_, rfl⟩
  have hgr1 : W0.grownBy W1 (some g2) := by rw [hW1]; exact grown_row _ _ _
  rw [← hW1] at hB1 hBx1
  simp only [← hW1] at hcp1
  have hcp2 : ∀ ty dc sc, (Builtin.copy_ #[87, 87] ty #[.slice (some ⟨g2, (i + 1), none⟩) (n + 1 - (i + 1)) dc, .slice (some ⟨g, (i), none⟩) (n - i) sc]).run Try.prog W1.drew = .ok (goInt (Nat.min (n - i) (n + 1 - (i + 1)))) (W1.drew.setRow g2 (xs.take ((i)) ++ ys ++ xs.drop ((i)) ++ Z.drop (1 + ((n) - (i)))).toArray) := fun ty dc sc => by
    have hmin : Nat.min (n - i) (n + 1 - (i + 1)) = n - i := by simp only [Nat.min_def]; split <;> omega
    have h := run_copy_rowS (P := Try.prog) W1.drew 87 87 ty 64 g2 ((i + 1)) (n + 1 - (i + 1)) dc ⟨g, (i), none⟩ (n - i) sc c1 64 (xs.drop ((i))) i0 1 Try.underlying87 hi0 hz1 (by exact hB1) (by rw [hmin, hdl]; omega)
      (fun q u hq => by
        have hq2 := (List.getElem?_eq_some_iff.1 hq).1
        rw [hdl] at hq2
        rw [Addr.add_lit]
        show W1.cell? _ = _
        rw [hBx1.cell, List.getElem?_append_left (by omega)]
        rwa [List.getElem?_drop] at hq) (by rw [hdl, hc1l]; omega) (fun u hu => hx1 u (List.mem_of_mem_drop hu))
    rw [h, hdl, show (i + 1) = (i) + 1 by omega, hL]
  have hB2 : BlockAt (W1.drew.setRow g2 (xs.take ((i)) ++ ys ++ xs.drop ((i)) ++ Z.drop (1 + ((n) - (i)))).toArray) g2 64 (xs.take ((i)) ++ ys ++ xs.drop ((i)) ++ Z.drop (1 + ((n) - (i)))) := BlockAt.row (w := W1.drew) (by exact hB1) _
  obtain ⟨W2, hW2⟩ : ∃ W2, W2 = W1.drew.setRow g2 (xs.take ((i)) ++ ys ++ xs.drop ((i)) ++ Z.drop (1 + ((n) - (i)))).toArray := ⟨_, rfl⟩
  have hgr2 : W1.grownBy W2 (some g2) := by rw [hW2]; exact grown_trans (grown_drew (World.grownBy.refl W1 _)) (grown_row _ _ _)
  rw [← hW2] at hB2
  simp only [← hW2] at hcp2
  have hown : W2.ownsRow 0 64 1 (.slice (some ⟨g2, 0, none⟩) (n + 1) G) (n + 1) (xs.take ((i)) ++ ys ++ xs.drop ((i))) :=
    own_shut (by simp only [List.length_append, List.length_take, List.length_drop, hl, hyl]; omega) (Nat.zero_le _) hGn hGm' (by rw [List.length_drop, hZl]; omega) hB2
  have hK : Kept w W2 (.slice (some ⟨g, 0, none⟩) n cap) (.slice (some ⟨g2, 0, none⟩) (n + 1) G) := by
    refine ⟨⟨(hgr2.os.trans hgr1.os).trans hgr0.os, (hgr2.tape.trans hgr1.tape).trans hgr0.tape, (hgr2.output.trans hgr1.output).trans hgr0.output, Nat.le_trans hgr0.size (Nat.le_trans hgr1.size hgr2.size), fun k hk _ => ?_⟩, fun k hk => .inr (by simp [Value.ownBlock] at hk; omega)⟩
    have h0 := hgr0.size
    have h1 := hgr1.size
    rw [hgr2.block k (by omega) (by intro e; injection e with e; omega), hgr1.block k (by omega) (by intro e; injection e with e; omega), hgr0.block k hk (by simp)]
  have HAP : Hid (∀ ty, (Builtin.append_ #[87, 3] ty #[.slice (some ⟨g, 0, none⟩) i cap, .int .i64 ((n + 1 - i : Nat) : Int)]).run Try.prog w = .ok (.slice (some ⟨g2, 0, none⟩) (n + 1) G) W0) := happ
  have HC1 : Hid (∀ ty dc, (Builtin.copy_ #[87, 87] ty #[.slice (some ⟨g2, (i), none⟩) (n + 1 - i) dc, .slice (some ⟨vb, 0, none⟩) 1 1]).run Try.prog W0 = .ok (goInt (Nat.min 1 (n + 1 - i))) W1) := hcp1
  simp only [Nat.add_sub_add_right] at hcp2
  have HC2 : Hid (∀ ty dc sc, (Builtin.copy_ #[87, 87] ty #[.slice (some ⟨g2, (i + 1), none⟩) (n - i) dc, .slice (some ⟨g, (i), none⟩) (n - i) sc]).run Try.prog W1.drew = .ok (goInt (Nat.min (n - i) (n - i))) W2) := hcp2
  have HOWN : Hid (W2.ownsRow 0 64 1 (.slice (some ⟨g2, 0, none⟩) (n + 1) G) (n + 1) (xs.take ((i)) ++ ys ++ xs.drop ((i)))) := hown
  have HK : Hid (Kept w W2 (.slice (some ⟨g, 0, none⟩) n cap) (.slice (some ⟨g2, 0, none⟩) (n + 1) G)) := hK
  clear hK happ hcp1 hcp2 hown hL hB hB0 hBx hBx1 hB1 hB2 hgr0 hgr1 hgr2 hW0 hW1 hW2 hc1 hc1l hdl htl hold hy hy0 hy1 hx1 hl _hr eZ hZl hZ hG hg2 hck
  have b1 : ((i : Int) == (n : Int)) = false := by simp; omega
  have b2 : (cap : Int) < (n : Int) + 1 := by omega
  have b3 : ¬ cap = 0 := by omega
  have b4 : ¬ cap = i := by omega
  have b5 : ¬ G = i + 1 := by omega
  have b6 : i + 1 ≤ n + 1 := by omega
  have b7 : i ≤ n + 1 := by omega
  have b8 : ¬ G = i := by omega
  have b9 : i ≤ n := by omega
  have b10 : i ≤ cap := by omega
  have b11 : (i : Int) + 1 ≤ (n : Int) + 1 := by omega
  have b14 : (i : Int) ≤ (n : Int) + 1 := by omega
  have hi6 : i ≤ 4000000000 := by omega
  have b12 : 0 ≤ (i : Int) + 1 := by omega
  have b13 : ((i : Int) + 1).toNat = i + 1 := by omega
  have hcp1 := HC1.out
  have e10 : (n : Int) + 1 - (i : Int) = ((n + 1 - i : Nat) : Int) := by omega
  go_enter Try.func73, Try.ntmps73
  go_wp2_with (at_builtin; refine Lib.wpList_append_run _ rfl (.tmp 34) (.tmp 39) 87 3 rfl _ _ rfl rfl _ _ (HAP.out _) ?_)
  have w1 := wrap64_s i hi6
  have w2 := wrapI_s i hi6
  go_region_law (refine step_known rfl (exec_copy (.tmp 50) (.tmp 53) 87 87 rfl ?_ ?_ (HC2.out _ (G - (i + 1)) (cap - i))) ?_; simp [Act.eval, Act.put]; simp [Act.eval, Act.put])
  all_goals
    go_wp2
    go_ret
    exact ⟨_, rfl, HOWN.out, HK.out⟩

/-- slices.Insert of one element, whatever way it goes. -/
theorem insC_some (v : Value) (n i vb : Nat) (xs ys : List Value) (w : World) (ho : w.ownsRow 0 64 1 v n xs) (hi : i ≤ n) (hn : n ≤ 1000000) (hne : v.ownBlock ≠ some vb) (hyl : ys.length = 1)
    (hx1 : ∀ u ∈ xs, u.oneCell' = true) (hy1 : ∀ u ∈ ys, u.oneCell' = true) (hy : BlockAt w vb 64 ys) :
    Calls Try.prog 73 #[v, .int .i64 i, .slice (some ⟨vb, 0, none⟩) 1 1] w fun e w' =>
      ∃ v', e = .returned v' ∧ w'.ownsRow 0 64 1 v' (n + 1) (xs.take ((i)) ++ ys ++ xs.drop ((i))) ∧ Kept w w' v v' := by
  rcases Nat.lt_or_ge i n with hlt | hge
  · rcases (own_open ho).2 with ⟨rfl, h0, _⟩ | ⟨g, cap, rest, rfl, _, hnc, hcm, hr, hB⟩
    · omega
    · have hg : vb ≠ g := fun e => hne (by rw [e]; rfl)
      rcases Nat.lt_or_ge n cap with h1 | h1
      · exact insC_place g cap n i vb xs rest ys w (by rw [ho.1]; try omega) hlt hn h1 hcm (by rw [hr]; try omega) hg hyl hx1 hy1 hy hB
      · exact insC_grow g cap n i vb xs rest ys w (by rw [ho.1]; try omega) hlt hnc (by omega) hn (by rw [hr]; try omega) hyl hx1 hy1 hy hB
  · obtain rfl : i = n := by omega
    have e1 : xs.take ((i)) = xs := List.take_of_length_le (by rw [ho.1]; omega)
    have e2 : xs.drop ((i)) = [] := List.drop_eq_nil_of_le (by rw [ho.1]; omega)
    have := insC_end v i vb xs ys w ho hn hyl hy1 hy
    rw [e1, e2, List.append_nil]
    exact this

end Go.Proofs.Qxb6601380a
