/-
  bytesOfNews (10), bytesOfSite (17), bytesOfSnap (16), siteCountsFit (18).
-/
import Derived.Test.Qxb6601448aByt
import Derived.Test.Qxb6601448aLst
namespace Go.Proofs.Qxb6601448a
open Go.RowKit
set_option linter.unusedSimpArgs false

/-- Some number from 0 to 1048577; old memory aq it was. -/
def NumbG (w : World) (e : Ending) (w' : World) : Prop := (∃ z : Int, e = .returned (.int .i64 z) ∧ 0 ≤ z ∧ z ≤ 1048577) ∧ w.grownBy w' none

/-- A list of strings of whatever length that memory can bear. -/
def Small (ss : List ByteArray) : Prop := ss.length ≤ maxLen ∧ ∀ s ∈ ss, s.size ≤ maxLen

/-- A ZNews that can be read: its slices. -/
structure NewsAt (w : World) (an aq ap af av : Option Addr) (names finals : List ByteArray) (seqs vals : List Int) (sss : List (Option Addr × Nat × List ByteArray)) : Prop where
  c1 : Cells w an (enS names)
  c2 : Cells w aq (enW seqs)
  c3 : Nest w ap sss
  c4 : Cells w af (enS finals)
  c5 : Cells w av (enW vals)
  l1 : Small names
  l2 : seqs.length ≤ maxLen
  l3 : sss.length ≤ maxLen ∧ ∀ t ∈ sss, Small t.2.2
  l4 : Small finals
  l5 : vals.length ≤ maxLen

theorem NewsAt.grown {w w' : World} {an aq ap af av : Option Addr} {names finals : List ByteArray} {seqs vals : List Int} {sss : List (Option Addr × Nat × List ByteArray)} (h : NewsAt w an aq ap af av names finals seqs vals sss) (g : w.grownBy w' none) : NewsAt w' an aq ap af av names finals seqs vals sss :=
  ⟨h.c1.grown g, h.c2.grown g, h.c3.grown g, h.c4.grown g, h.c5.grown g, h.l1, h.l2, h.l3, h.l4, h.l5⟩

set_option maxHeartbeats 4000000 in
set_option maxRecDepth 100000 in
theorem news10 (w : World) (r : Int) (an aq ap af av : Option Addr) (cn cs cp cf cv : Nat) (names finals : List ByteArray) (seqs vals : List Int) (sss : List (Option Addr × Nat × List ByteArray)) (h : NewsAt w an aq ap af av names finals seqs vals sss) :
    Calls Try.prog 10 #[.agg #[.int .u64 r, .slice an names.length cn, .slice aq seqs.length cs, .slice ap sss.length cp, .slice af finals.length cf, .slice av vals.length cv]] w fun e w' => NumbG w e w' := by
  obtain ⟨W, hW⟩ : ∃ W, W = w.alloc (Obj.cells #[.int .u64 r, .slice an names.length cn, .slice aq seqs.length cs, .slice ap sss.length cp, .slice af finals.length cf, .slice av vals.length cv] 27) := ⟨_, rfl⟩
  have g : w.grownBy W none := by rw [hW]; exact World.grownBy_alloc _ _ _
  have h' := h.grown g
  have H1 := hidC (strs41 W an cn names h'.c1 h'.l1.1 h'.l1.2)
  have H2 := hidC (words42 W aq seqs.length cs h'.l2)
  have H3 := hidC (nested43 W ap cp sss h'.c3 h'.l3.1 h'.l3.2)
  have H4 := hidC (strs41 W af cf finals h'.c4 h'.l4.1 h'.l4.2)
  have H5 := hidC (words42 W av vals.length cv h'.l5)
  rw [hW] at H1 H2 H3 H4 H5
  have G := (show Hid _ from g)
  rw [hW] at G
  clear h h' g hW W
  obtain ⟨n1, e1⟩ : ∃ n, n = names.length := ⟨_, rfl⟩
  obtain ⟨n2, e2⟩ : ∃ n, n = sss.length := ⟨_, rfl⟩
  obtain ⟨n3, e3⟩ : ∃ n, n = finals.length := ⟨_, rfl⟩
  obtain ⟨n4, e4⟩ : ∃ n, n = seqs.length := ⟨_, rfl⟩
  obtain ⟨n5, e5⟩ : ∃ n, n = vals.length := ⟨_, rfl⟩
  rw [← e1, ← e2, ← e3, ← e4, ← e5] at H1 H2 H3 H4 H5 G ⊢
  clear e1 e2 e3 e4 e5
  go_enter Try.func10, Try.ntmps10
  go_upto_region 2 with (go_at_call 41; refine H1.out.mono ?_; rintro e1 w1 ⟨⟨z1, rfl, h10, h11⟩, hw⟩; subst w1)
  go_upto_region 3 with (first | (go_at_call 42; refine H2.out.mono ?_; rintro e1 w1 ⟨⟨z2, rfl, h20, h21⟩, hw⟩; subst w1) | (go_at_call 9; refine (add9 z1 z2 _ h10 h20 (by omega) (by omega)).mono ?_; rintro e1 w1 ⟨⟨y2, rfl, k20, k21⟩, hw⟩; subst w1))
  go_upto_region 4 with (first | (go_at_call 43; refine H3.out.mono ?_; rintro e1 w1 ⟨⟨z3, rfl, h30, h31⟩, hw⟩; subst w1) | (go_at_call 9; refine (add9 y2 z3 _ k20 h30 (by omega) (by omega)).mono ?_; rintro e1 w1 ⟨⟨y3, rfl, k30, k31⟩, hw⟩; subst w1))
  go_upto_region 5 with (first | (go_at_call 41; refine H4.out.mono ?_; rintro e1 w1 ⟨⟨z4, rfl, h40, h41⟩, hw⟩; subst w1) | (go_at_call 9; refine (add9 y3 z4 _ k30 h40 (by omega) (by omega)).mono ?_; rintro e1 w1 ⟨⟨y4, rfl, k40, k41⟩, hw⟩; subst w1))
  go_wp2_with (first | (go_at_call 42; refine H5.out.mono ?_; rintro e1 w1 ⟨⟨z5, rfl, h50, h51⟩, hw⟩; subst w1) | (go_at_call 9; refine (add9 y4 z5 _ k40 h50 (by omega) (by omega)).mono ?_; rintro e1 w1 ⟨⟨y5, rfl, k50, k51⟩, hw⟩; subst w1))
  go_ret
  exact ⟨⟨_, rfl, by omega, by omega⟩, G.out⟩

/-- A ZSite that can be read. -/
structure SiteAt (w : World) (ap ae : Option Addr) (peers exps : List ByteArray) : Prop where
  c1 : Cells w ap (enS peers)
  c2 : Cells w ae (enS exps)
  l1 : Small peers
  l2 : Small exps

theorem SiteAt.grown {w w' : World} {ap ae : Option Addr} {peers exps : List ByteArray} (h : SiteAt w ap ae peers exps) (g : w.grownBy w' none) : SiteAt w' ap ae peers exps :=
  ⟨h.c1.grown g, h.c2.grown g, h.l1, h.l2⟩

set_option maxHeartbeats 4000000 in
set_option maxRecDepth 100000 in
theorem site17 (w : World) (nm : ByteArray) (ap ae : Option Addr) (cp ce : Nat) (peers exps : List ByteArray) (h : SiteAt w ap ae peers exps) (hnm : nm.size ≤ maxLen) :
    Calls Try.prog 17 #[.agg #[.string nm, .slice ap peers.length cp, .slice ae exps.length ce]] w fun e w' => NumbG w e w' := by
  unfold maxLen at hnm
  obtain ⟨W, hW⟩ : ∃ W, W = w.alloc (Obj.cells #[.string nm, .slice ap peers.length cp, .slice ae exps.length ce] 42) := ⟨_, rfl⟩
  have g : w.grownBy W none := by rw [hW]; exact World.grownBy_alloc _ _ _
  have h' := h.grown g
  have H1 := hidC (strs41 W ap cp peers h'.c1 h'.l1.1 h'.l1.2)
  have H2 := hidC (strs41 W ae ce exps h'.c2 h'.l2.1 h'.l2.2)
  have H0 := hidC (add9 0 (nm.size : Int) W (by omega) (by omega) (by omega) (by omega))
  rw [hW] at H0 H1 H2
  have G := (show Hid _ from g)
  rw [hW] at G
  clear h h' g hW W
  obtain ⟨n1, e1⟩ : ∃ n, n = peers.length := ⟨_, rfl⟩
  obtain ⟨n2, e2⟩ : ∃ n, n = exps.length := ⟨_, rfl⟩
  rw [← e1, ← e2] at H0 H1 H2 G ⊢
  clear e1 e2
  go_enter Try.func17, Try.ntmps17
  go_upto_region 2 with (go_at_call 9; refine H0.out.mono ?_; rintro e1 w1 ⟨⟨z1, rfl, h10, h11⟩, hw⟩; subst w1)
  go_upto_region 3 with (first | (go_at_call 41; refine H1.out.mono ?_; rintro e1 w1 ⟨⟨z2, rfl, h20, h21⟩, hw⟩; subst w1) | (go_at_call 9; refine (add9 z1 z2 _ h10 h20 (by omega) (by omega)).mono ?_; rintro e1 w1 ⟨⟨y2, rfl, k20, k21⟩, hw⟩; subst w1))
  go_wp2_with (first | (go_at_call 41; refine H2.out.mono ?_; rintro e1 w1 ⟨⟨z3, rfl, h30, h31⟩, hw⟩; subst w1) | (go_at_call 9; refine (add9 y2 z3 _ k20 h30 (by omega) (by omega)).mono ?_; rintro e1 w1 ⟨⟨y3, rfl, k30, k31⟩, hw⟩; subst w1))
  go_ret
  exact ⟨⟨_, rfl, by omega, by omega⟩, G.out⟩

/-- Some bool; where it is true, both lists are short; old memory as it was. -/
def FitPost (w : World) (n1 n2 : Nat) (e : Ending) (w' : World) : Prop := (∃ b, e = .returned (.bool b) ∧ (b = true → n1 ≤ 4096 ∧ n2 ≤ 4096)) ∧ w.grownBy w' none

set_option maxHeartbeats 4000000 in
set_option maxRecDepth 100000 in
theorem fit18 (w : World) (nm : ByteArray) (ap ae : Option Addr) (n1 cp n2 ce : Nat) (h1 : n1 ≤ maxLen) (h2 : n2 ≤ maxLen) :
    Calls Try.prog 18 #[.agg #[.string nm, .slice ap n1 cp, .slice ae n2 ce]] w fun e w' => FitPost w n1 n2 e w' := by
  unfold maxLen at h1 h2
  have G : Hid (w.grownBy (w.alloc (Obj.cells #[.string nm, .slice ap n1 cp, .slice ae n2 ce] 42)) none) := World.grownBy_alloc _ _ _
  by_cases k1 : (n1 : Int) ≤ 4096
  · by_cases k2 : (n2 : Int) ≤ 4096
    · go_enter Try.func18, Try.ntmps18
      go_wp2
      go_ret
      exact ⟨⟨_, rfl, fun _ => ⟨by omega, by omega⟩⟩, G.out⟩
    · have k2' : (4096 : Int) < (n2 : Int) := by omega
      have k3 : decide ((n2 : Int) ≤ 4096) = false := by simp; omega
      clear k2
      go_enter Try.func18, Try.ntmps18
      go_wp2
      go_ret
      exact ⟨⟨_, rfl, fun h => by first | cases h | (simp at h; omega)⟩, G.out⟩
  · have k2' : (4096 : Int) < (n1 : Int) := by omega
    have k3 : decide ((n1 : Int) ≤ 4096) = false := by simp; omega
    clear k1
    go_enter Try.func18, Try.ntmps18
    go_wp2
    go_ret
    exact ⟨⟨_, rfl, fun h => by first | cases h | (simp at h; omega)⟩, G.out⟩

set_option maxHeartbeats 4000000 in
set_option maxRecDepth 100000 in
theorem snap16 (w : World) (r sv : Int) (st : ByteArray) (an aq ap af av : Option Addr) (cn cs cp cf cv : Nat) (names finals : List ByteArray) (seqs vals : List Int) (sss : List (Option Addr × Nat × List ByteArray)) (h : NewsAt w an aq ap af av names finals seqs vals sss) (hst : st.size ≤ maxLen) :
    Calls Try.prog 16 #[.agg #[.int .u64 r, .slice an names.length cn, .slice aq seqs.length cs, .slice ap sss.length cp, .slice af finals.length cf, .slice av vals.length cv, .string st, .int .u64 sv]] w fun e w' => NumbG w e w' := by
  unfold maxLen at hst
  obtain ⟨W, hW⟩ : ∃ W, W = w.alloc (Obj.cells #[.int .u64 r, .slice an names.length cn, .slice aq seqs.length cs, .slice ap sss.length cp, .slice af finals.length cf, .slice av vals.length cv, .string st, .int .u64 sv] 40) := ⟨_, rfl⟩
  have g : w.grownBy W none := by rw [hW]; exact World.grownBy_alloc _ _ _
  have hB : BlockAt W w.heap.size 40 [.int .u64 r, .slice an names.length cn, .slice aq seqs.length cs, .slice ap sss.length cp, .slice af finals.length cf, .slice av vals.length cv, .string st, .int .u64 sv] := by rw [hW]; exact blockAt_new w 40 _
  have H1 := hidC (news10 W.drew r an aq ap af av cn cs cp cf cv names finals seqs vals sss (h.grown (grown_drew g)))
  have HG := (show Hid _ from g)
  clear h g
  go_enter Try.func16, Try.ntmps16
  go_upto_region 1 with fail
  rw [← hW]
  clear hW
  refine region_last (fun w' => w'.cell? ⟨w.heap.size, 0, none⟩ = some (.int .u64 r) ∧ w'.cell? ⟨w.heap.size, 1, none⟩ = some (.slice an names.length cn) ∧ w'.cell? ⟨w.heap.size, 2, none⟩ = some (.slice aq seqs.length cs) ∧ w'.cell? ⟨w.heap.size, 3, none⟩ = some (.slice ap sss.length cp) ∧ w'.cell? ⟨w.heap.size, 4, none⟩ = some (.slice af finals.length cf) ∧ w'.cell? ⟨w.heap.size, 5, none⟩ = some (.slice av vals.length cv) ∧ w'.cell? ⟨w.heap.size, 6, none⟩ = some (.string st)) 7 (by kernel_rfl) ?_
  have hS : ((fun w' => w'.cell? ⟨w.heap.size, 0, none⟩ = some (.int .u64 r) ∧ w'.cell? ⟨w.heap.size, 1, none⟩ = some (.slice an names.length cn) ∧ w'.cell? ⟨w.heap.size, 2, none⟩ = some (.slice aq seqs.length cs) ∧ w'.cell? ⟨w.heap.size, 3, none⟩ = some (.slice ap sss.length cp) ∧ w'.cell? ⟨w.heap.size, 4, none⟩ = some (.slice af finals.length cf) ∧ w'.cell? ⟨w.heap.size, 5, none⟩ = some (.slice av vals.length cv) ∧ w'.cell? ⟨w.heap.size, 6, none⟩ = some (.string st)) : World → Prop) W.drew := ⟨(hB).cell 0, (hB).cell 1, (hB).cell 2, (hB).cell 3, (hB).cell 4, (hB).cell 5, (hB).cell 6⟩
  refine AnyL.take (i := 0) (v := ?_) rfl (by kernel_rfl) (by kernel_rfl) (by kernel_rfl) 0 (by kernel_rfl) (by kernel_rfl) (by kernel_rfl) (fun _ _ _ h => h) (Or.inl ⟨by rfl, ?_⟩) hS ?_
  rotate_left
  · intro w' hSw
    (try dsimp only at hSw)
    go_simp
    all_goals with_reducible rfl
  try simp only [Act.put, List.setIfInBounds_toArray, List.set_cons_zero, List.set_cons_succ]
  refine AnyL.take (i := 1) (v := ?_) rfl (by kernel_rfl) (by kernel_rfl) (by kernel_rfl) 1 (by kernel_rfl) (by kernel_rfl) (by kernel_rfl) (fun _ _ _ h => h) (Or.inl ⟨by rfl, ?_⟩) hS ?_
  rotate_left
  · intro w' hSw
    (try dsimp only at hSw)
    go_simp
    all_goals with_reducible rfl
  try simp only [Act.put, List.setIfInBounds_toArray, List.set_cons_zero, List.set_cons_succ]
  refine AnyL.take (i := 3) (v := ?_) rfl (by kernel_rfl) (by kernel_rfl) (by kernel_rfl) 3 (by kernel_rfl) (by kernel_rfl) (by kernel_rfl) (fun _ _ _ h => h) (Or.inl ⟨by rfl, ?_⟩) hS ?_
  rotate_left
  · intro w' hSw
    (try dsimp only at hSw)
    go_simp
    all_goals with_reducible rfl
  try simp only [Act.put, List.setIfInBounds_toArray, List.set_cons_zero, List.set_cons_succ]
  refine AnyL.take (i := 4) (v := ?_) rfl (by kernel_rfl) (by kernel_rfl) (by kernel_rfl) 4 (by kernel_rfl) (by kernel_rfl) (by kernel_rfl) (fun _ _ _ h => h) (Or.inl ⟨by rfl, ?_⟩) hS ?_
  rotate_left
  · intro w' hSw
    (try dsimp only at hSw)
    go_simp
    all_goals with_reducible rfl
  try simp only [Act.put, List.setIfInBounds_toArray, List.set_cons_zero, List.set_cons_succ]
  refine AnyL.take (i := 5) (v := ?_) rfl (by kernel_rfl) (by kernel_rfl) (by kernel_rfl) 5 (by kernel_rfl) (by kernel_rfl) (by kernel_rfl) (fun _ _ _ h => h) (Or.inl ⟨by rfl, ?_⟩) hS ?_
  rotate_left
  · intro w' hSw
    (try dsimp only at hSw)
    go_simp
    all_goals with_reducible rfl
  try simp only [Act.put, List.setIfInBounds_toArray, List.set_cons_zero, List.set_cons_succ]
  refine AnyL.one (i := 2) rfl (by kernel_rfl) (fun K hK => ?_)
  go_simp
  go_wp2_with (go_at_call 10; refine H1.out.mono ?_; rintro e1 w1 ⟨⟨z, rfl, hz0, hz1⟩, g1⟩)
  have hS1 : ((fun w' => w'.cell? ⟨w.heap.size, 0, none⟩ = some (.int .u64 r) ∧ w'.cell? ⟨w.heap.size, 1, none⟩ = some (.slice an names.length cn) ∧ w'.cell? ⟨w.heap.size, 2, none⟩ = some (.slice aq seqs.length cs) ∧ w'.cell? ⟨w.heap.size, 3, none⟩ = some (.slice ap sss.length cp) ∧ w'.cell? ⟨w.heap.size, 4, none⟩ = some (.slice af finals.length cf) ∧ w'.cell? ⟨w.heap.size, 5, none⟩ = some (.slice av vals.length cv) ∧ w'.cell? ⟨w.heap.size, 6, none⟩ = some (.string st)) : World → Prop) _ := ⟨(hB.grown (grown_trans (grown_drew (World.grownBy.refl W _)) g1) (by simp)).cell 0, (hB.grown (grown_trans (grown_drew (World.grownBy.refl W _)) g1) (by simp)).cell 1, (hB.grown (grown_trans (grown_drew (World.grownBy.refl W _)) g1) (by simp)).cell 2, (hB.grown (grown_trans (grown_drew (World.grownBy.refl W _)) g1) (by simp)).cell 3, (hB.grown (grown_trans (grown_drew (World.grownBy.refl W _)) g1) (by simp)).cell 4, (hB.grown (grown_trans (grown_drew (World.grownBy.refl W _)) g1) (by simp)).cell 5, (hB.grown (grown_trans (grown_drew (World.grownBy.refl W _)) g1) (by simp)).cell 6⟩
  refine hK.out _ _ (Or.inr hS1) ?_
  clear hK K
  try simp only [Act.put, List.setIfInBounds_toArray, List.set_cons_zero, List.set_cons_succ]
  refine AnyL.one (i := 6) rfl (by kernel_rfl) (fun K hK => ?_)
  go_simp
  go_wp2_with (go_at_call 9; refine (add9 z (st.size : Int) w1 hz0 (by omega) (by omega) (by omega)).mono ?_; rintro e1 w2 ⟨⟨y, rfl, hy0, hy1⟩, hw⟩; subst w2)
  have hS2 : ((fun w' => w'.cell? ⟨w.heap.size, 0, none⟩ = some (.int .u64 r) ∧ w'.cell? ⟨w.heap.size, 1, none⟩ = some (.slice an names.length cn) ∧ w'.cell? ⟨w.heap.size, 2, none⟩ = some (.slice aq seqs.length cs) ∧ w'.cell? ⟨w.heap.size, 3, none⟩ = some (.slice ap sss.length cp) ∧ w'.cell? ⟨w.heap.size, 4, none⟩ = some (.slice af finals.length cf) ∧ w'.cell? ⟨w.heap.size, 5, none⟩ = some (.slice av vals.length cv) ∧ w'.cell? ⟨w.heap.size, 6, none⟩ = some (.string st)) : World → Prop) _ := hS1
  refine hK.out _ _ (Or.inr hS2) ?_
  clear hK K
  try simp only [Act.put, List.setIfInBounds_toArray, List.set_cons_zero, List.set_cons_succ]
  refine AnyL.one (i := 7) rfl (by kernel_rfl) (fun K hK => ?_)
  go_simp
  refine hK.out _ _ (Or.inl rfl) ?_
  clear hK K
  refine AnyL.done (by kernel_rfl) ?_ _
  go_wp2
  go_ret
  exact ⟨⟨_, rfl, by omega, by omega⟩, grown_trans HG.out (grown_trans (grown_drew (World.grownBy.refl W _)) g1)⟩

end Go.Proofs.Qxb6601448a
