/-
  copySite (20), copyNews (12), copySnap (19), toSite (23).
-/
import Derived.Test.Qxb6601448aCln
namespace Go.Proofs.Qxb6601448a
open Go.RowKit
set_option linter.unusedSimpArgs false

theorem results_cell1 {fn : Func} {p : Tmp} {ty : TypeId} (h : fn.results = #[.cell p ty]) (tmps : Array Value) (P : Program) (w : World) :
    (results fn tmps).run P w = ((asAddr (tmps.getD p undef)).run P w).andThen fun a w₁ => (loadVar ty a).run P w₁ := by
  simp only [results, h]
  simp [Sem.run_bind, Result.andThen]

theorem grown_set_new {w w' : World} {g o : Nat} (h : w.grownBy w' none) (hg : w.heap.size ≤ g) (u : Value) : w.grownBy (w'.setCell ⟨g, o, none⟩ u) none :=
  ⟨h.os, h.tape, h.output, by have := h.size; simpa [World.setCell] using this, fun k hk hn => by
    rw [Below.heap_setCell _ _ _ _ (by show k ≠ g; omega), h.block k hk hn]⟩

theorem Cells.set {w : World} {a : Option Addr} {xs : List Value} {g o : Nat} (h : Cells w a xs) (hne : ∀ x, a = some x → x.block ≠ g) (u : Value) : Cells (w.setCell ⟨g, o, none⟩ u) a xs := by
  rcases h with h | ⟨b, off, rfl, hc⟩
  · exact .inl h
  · refine .inr ⟨b, off, rfl, fun i x hx => ?_⟩
    rw [World.cell?_setCell_other _ _ _ _ (fun e => hne _ rfl (by injection e with e; exact e.symm))]
    exact hc i x hx

theorem New.ne {w : World} {a : Option Addr} {g : Nat} (h : New w a) (hg : g < w.heap.size) : ∀ x, a = some x → x.block ≠ g := fun x hx e => by have := h x hx; omega

/-- A copy of a ZSite. -/
def SitePost (w : World) (nm : ByteArray) (peers exps : List ByteArray) (e : Ending) (w' : World) : Prop :=
  ∃ a1 c1 a2 c2, e = .returned (.agg #[.string nm, .slice a1 peers.length c1, .slice a2 exps.length c2]) ∧ SiteAt w' a1 a2 peers exps ∧ New w a1 ∧ New w a2 ∧ w.grownBy w' none

set_option maxHeartbeats 4000000 in
set_option maxRecDepth 100000 in
theorem csite20 (w : World) (nm : ByteArray) (ap ae : Option Addr) (cp ce : Nat) (peers exps : List ByteArray) (h : SiteAt w ap ae peers exps) (h1 : peers.length ≤ 1048576) (h2 : exps.length ≤ 1048576) :
    Calls Try.prog 20 #[.agg #[.string nm, .slice ap peers.length cp, .slice ae exps.length ce]] w fun e w' => SitePost w nm peers exps e w' := by
  obtain ⟨W, hW⟩ : ∃ W, W = (w.alloc (Obj.cells #[.string nm, .slice ap peers.length cp, .slice ae exps.length ce] 42)).alloc (Obj.cells #[.string ⟨#[]⟩, .slice none 0 0, .slice none 0 0] 42) := ⟨_, rfl⟩
  have g : w.grownBy W none := by rw [hW]; exact grown_trans (World.grownBy_alloc _ _ _) (World.grownBy_alloc _ _ _)
  have hz : W.heap.size = w.heap.size + 2 := by rw [hW]; simp
  have hB : BlockAt W w.heap.size 42 [.string nm, .slice ap peers.length cp, .slice ae exps.length ce] := by rw [hW]; exact (blockAt_new w 42 _).alloc _
  have hR : BlockAt W (w.heap.size + 1) 42 [.string ⟨#[]⟩, .slice none 0 0, .slice none 0 0] := by rw [hW]; have := blockAt_new (w.alloc (Obj.cells #[.string nm, .slice ap peers.length cp, .slice ae exps.length ce] 42)) 42 [.string ⟨#[]⟩, .slice none 0 0, .slice none 0 0]; rwa [World.size_alloc] at this
  have h' := h.grown (grown_drew g)
  have es : ∀ (l : List ByteArray), ∀ x ∈ enS l, ∃ s, x = Value.string s := fun l x hx => by obtain ⟨s, _, rfl⟩ := List.mem_map.1 hx; exact ⟨s, rfl⟩
  have el : ∀ (l : List ByteArray), (enS l).length = l.length := fun l => by rw [enS, List.length_map]
  have k1 := clone44 W.drew ap cp (enS peers) h'.c1 (es _) (by rw [el]; exact h1)
  rw [el] at k1
  have H1 := hidC k1
  have H2 : Hid (∀ w', W.drew.grownBy w' none → Hid (Cells w' ae (enS exps))) := fun w' g' => h'.c2.grown g'
  have HG := (show Hid _ from g)
  have HL := (show Hid _ from (And.intro h.l1 h.l2))
  have HR := (show Hid _ from hR)
  have HES := (show Hid _ from es)
  have HEL := (show Hid _ from el)
  clear k1 h h' g hR es el
  go_enter Try.func20, Try.ntmps20
  go_upto_region 1 with fail
  rw [← hW]
  clear hW
  refine region_last (fun w' => w'.cell? ⟨w.heap.size, 0, none⟩ = some (.string nm) ∧ w'.cell? ⟨w.heap.size, 1, none⟩ = some (.slice ap peers.length cp) ∧ w'.cell? ⟨w.heap.size, 2, none⟩ = some (.slice ae exps.length ce)) 9 (by kernel_rfl) ?_
  have hS : ((fun w' => w'.cell? ⟨w.heap.size, 0, none⟩ = some (.string nm) ∧ w'.cell? ⟨w.heap.size, 1, none⟩ = some (.slice ap peers.length cp) ∧ w'.cell? ⟨w.heap.size, 2, none⟩ = some (.slice ae exps.length ce)) : World → Prop) W.drew := ⟨(hB).cell 0, (hB).cell 1, (hB).cell 2⟩
  refine AnyL.take (i := 0) (v := ?_) rfl (by kernel_rfl) (by kernel_rfl) (by kernel_rfl) 0 (by kernel_rfl) (by kernel_rfl) (by kernel_rfl) (fun _ _ _ h => h) (Or.inl ⟨by rfl, ?_⟩) hS ?_
  rotate_left
  · intro w' hSw
    (try dsimp only at hSw)
    go_simp
    all_goals with_reducible rfl
  try simp only [Act.put, List.setIfInBounds_toArray, List.set_cons_zero, List.set_cons_succ]
  refine AnyL.take (i := 1) (v := ?_) rfl (by kernel_rfl) (by kernel_rfl) (by kernel_rfl) 1 (by kernel_rfl) (by kernel_rfl) (by kernel_rfl) (fun _ _ _ h => h) (Or.inl ⟨by rfl, ?_⟩) hS ?_
  rotate_left
  · intro w' hSw
    (try dsimp only at hSw)
    go_simp
    all_goals with_reducible rfl
  try simp only [Act.put, List.setIfInBounds_toArray, List.set_cons_zero, List.set_cons_succ]
  refine AnyL.take (i := 2) (v := ?_) rfl (by kernel_rfl) (by kernel_rfl) (by kernel_rfl) 2 (by kernel_rfl) (by kernel_rfl) (by kernel_rfl) (fun _ _ _ h => h) (Or.inl ⟨by rfl, ?_⟩) hS ?_
  rotate_left
  · intro w' hSw
    (try dsimp only at hSw)
    go_simp
    all_goals with_reducible rfl
  try simp only [Act.put, List.setIfInBounds_toArray, List.set_cons_zero, List.set_cons_succ]
  refine AnyL.take (i := 3) (v := ?_) rfl (by kernel_rfl) (by kernel_rfl) (by kernel_rfl) 3 (by kernel_rfl) (by kernel_rfl) (by kernel_rfl) (fun _ _ _ h => h) (Or.inl ⟨by rfl, ?_⟩) hS ?_
  rotate_left
  · intro w' hSw
    (try dsimp only at hSw)
    go_simp
    all_goals with_reducible rfl
  try simp only [Act.put, List.setIfInBounds_toArray, List.set_cons_zero, List.set_cons_succ]
  refine AnyL.take (i := 5) (v := ?_) rfl (by kernel_rfl) (by kernel_rfl) (by kernel_rfl) 5 (by kernel_rfl) (by kernel_rfl) (by kernel_rfl) (fun _ _ _ h => h) (Or.inl ⟨by rfl, ?_⟩) hS ?_
  rotate_left
  · intro w' hSw
    (try dsimp only at hSw)
    go_simp
    all_goals with_reducible rfl
  try simp only [Act.put, List.setIfInBounds_toArray, List.set_cons_zero, List.set_cons_succ]
  refine AnyL.take (i := 6) (v := ?_) rfl (by kernel_rfl) (by kernel_rfl) (by kernel_rfl) 6 (by kernel_rfl) (by kernel_rfl) (by kernel_rfl) (fun _ _ _ h => h) (Or.inl ⟨by rfl, ?_⟩) hS ?_
  rotate_left
  · intro w' hSw
    (try dsimp only at hSw)
    go_simp
    all_goals with_reducible rfl
  try simp only [Act.put, List.setIfInBounds_toArray, List.set_cons_zero, List.set_cons_succ]
  refine AnyL.one (i := 4) rfl (by kernel_rfl) (fun K hK => ?_)
  go_simp
  go_wp2_with (go_at_call 44; refine H1.out.mono ?_; rintro e1 w1 ⟨a1, c1, rfl, hC1, hN1, g1⟩)
  have hS1 : ((fun w' => w'.cell? ⟨w.heap.size, 0, none⟩ = some (.string nm) ∧ w'.cell? ⟨w.heap.size, 1, none⟩ = some (.slice ap peers.length cp) ∧ w'.cell? ⟨w.heap.size, 2, none⟩ = some (.slice ae exps.length ce)) : World → Prop) _ := ⟨(hB.grown (grown_trans (grown_drew (World.grownBy.refl W _)) g1) (by simp)).cell 0, (hB.grown (grown_trans (grown_drew (World.grownBy.refl W _)) g1) (by simp)).cell 1, (hB.grown (grown_trans (grown_drew (World.grownBy.refl W _)) g1) (by simp)).cell 2⟩
  refine hK.out _ _ (Or.inr hS1) ?_
  clear hK K
  try simp only [Act.put, List.setIfInBounds_toArray, List.set_cons_zero, List.set_cons_succ]
  have H2' := clone44 w1 ae ce (enS exps) (H2.out w1 g1) (HES.out _) (by rw [HEL.out]; exact h2)
  refine AnyL.one (i := 7) rfl (by kernel_rfl) (fun K hK => ?_)
  go_simp
  go_wp2_with (go_at_call 44; rw [HEL.out] at H2'; refine H2'.mono ?_; rintro e1 w2 ⟨a2, c2, rfl, hC2, hN2, g2⟩)
  have hS2 : ((fun w' => w'.cell? ⟨w.heap.size, 0, none⟩ = some (.string nm) ∧ w'.cell? ⟨w.heap.size, 1, none⟩ = some (.slice ap peers.length cp) ∧ w'.cell? ⟨w.heap.size, 2, none⟩ = some (.slice ae exps.length ce)) : World → Prop) _ := ⟨(hB.grown (grown_trans (grown_trans (grown_drew (World.grownBy.refl W _)) g1) g2) (by simp)).cell 0, (hB.grown (grown_trans (grown_trans (grown_drew (World.grownBy.refl W _)) g1) g2) (by simp)).cell 1, (hB.grown (grown_trans (grown_trans (grown_drew (World.grownBy.refl W _)) g1) g2) (by simp)).cell 2⟩
  refine hK.out _ _ (Or.inr hS2) ?_
  clear hK K
  try simp only [Act.put, List.setIfInBounds_toArray, List.set_cons_zero, List.set_cons_succ]
  refine AnyL.take (i := 8) (v := ?_) rfl (by kernel_rfl) (by kernel_rfl) (by kernel_rfl) 8 (by kernel_rfl) (by kernel_rfl) (by kernel_rfl) (fun _ _ _ h => h) (Or.inl ⟨by rfl, ?_⟩) hS2 ?_
  rotate_left
  · intro w' hSw
    (try dsimp only at hSw)
    go_simp
    all_goals with_reducible rfl
  try simp only [Act.put, List.setIfInBounds_toArray, List.set_cons_zero, List.set_cons_succ]
  have hR2 := BlockAt.grown HR.out (grown_trans (grown_trans (grown_drew (World.grownBy.refl W _)) g1) g2) (by simp)
  have r0 := hR2.cell 0
  have r1 := hR2.cell 1
  have r2 := hR2.cell 2
  have s0 := hR2.frozen 0
  have s1 := hR2.frozen 1
  have s2 := hR2.frozen 2
  simp only [List.getElem?_cons_zero, List.getElem?_cons_succ] at r0 r1 r2
  clear hR2
  refine AnyL.one (i := 9) rfl (by kernel_rfl) (fun K hK => ?_)
  go_simp
  refine hK.out _ _ (Or.inl rfl) ?_
  clear hK K
  refine AnyL.done (by kernel_rfl) ?_ _
  go_wp2
  (try simp only [Exit.inBlock, Exit.then])
  refine bodyPost_ret (v := .agg #[.string nm, .slice a1 (enS peers).length c1, .slice a2 (enS exps).length c2]) ?_ rfl ?_
  · rw [results_cell1 rfl]
    go_simp
  · have hW1 : W.heap.size ≤ w1.heap.size := g1.size
    have hn1 : ∀ x, a1 = some x → x.block ≠ w.heap.size + 1 := hN1.ne (show w.heap.size + 1 < W.heap.size by omega)
    have hn2 : ∀ x, a2 = some x → x.block ≠ w.heap.size + 1 := hN2.ne (show w.heap.size + 1 < w1.heap.size by omega)
    refine ⟨a1, c1, a2, c2, by rw [HEL.out, HEL.out], ⟨(((hC1.grown g2).set hn1 _).set hn1 _).set hn1 _, ((hC2.set hn2 _).set hn2 _).set hn2 _, HL.out.1, HL.out.2⟩, hN1.older (show w.heap.size ≤ W.heap.size by omega), hN2.older (by omega),
      grown_set_new (grown_set_new (grown_set_new (grown_trans HG.out (grown_trans (grown_trans (grown_drew (World.grownBy.refl W _)) g1) g2)) (by omega) _) (by omega) _) (by omega) _⟩

/-- The slices of a ZNews that was copied. -/
structure NewsC (w : World) (a1 a2 a3 a4 a5 : Option Addr) (names finals : List ByteArray) (seqs vals : List Int) (ys : List Value) : Prop where
  c1 : Cells w a1 (enS names)
  c2 : Cells w a2 (enW seqs)
  c3 : Cells w a3 ys
  s3 : Sls ys
  c4 : Cells w a4 (enS finals)
  c5 : Cells w a5 (enW vals)

structure New5 (w : World) (a1 a2 a3 a4 a5 : Option Addr) : Prop where
  n1 : New w a1
  n2 : New w a2
  n3 : New w a3
  n4 : New w a4
  n5 : New w a5

theorem New5.older {w w0 : World} {a1 a2 a3 a4 a5 : Option Addr} (h : New5 w a1 a2 a3 a4 a5) (hs : w0.heap.size ≤ w.heap.size) : New5 w0 a1 a2 a3 a4 a5 :=
  ⟨h.n1.older hs, h.n2.older hs, h.n3.older hs, h.n4.older hs, h.n5.older hs⟩

theorem NewsC.grown {w w' : World} {a1 a2 a3 a4 a5 : Option Addr} {names finals : List ByteArray} {seqs vals : List Int} {ys : List Value} (h : NewsC w a1 a2 a3 a4 a5 names finals seqs vals ys) (g : w.grownBy w' none) : NewsC w' a1 a2 a3 a4 a5 names finals seqs vals ys :=
  ⟨h.c1.grown g, h.c2.grown g, h.c3.grown g, h.s3, h.c4.grown g, h.c5.grown g⟩

theorem NewsC.set {w w0 : World} {a1 a2 a3 a4 a5 : Option Addr} {names finals : List ByteArray} {seqs vals : List Int} {ys : List Value} {g o : Nat} (h : NewsC w a1 a2 a3 a4 a5 names finals seqs vals ys) (hn : New5 w0 a1 a2 a3 a4 a5) (hg : g < w0.heap.size) (u : Value) : NewsC (w.setCell ⟨g, o, none⟩ u) a1 a2 a3 a4 a5 names finals seqs vals ys :=
  ⟨h.c1.set (hn.n1.ne hg) u, h.c2.set (hn.n2.ne hg) u, h.c3.set (hn.n3.ne hg) u, h.s3, h.c4.set (hn.n4.ne hg) u, h.c5.set (hn.n5.ne hg) u⟩

/-- A copy of a ZNews. -/
def NewsPost (w : World) (r : Int) (names finals : List ByteArray) (seqs vals : List Int) (n : Nat) (e : Ending) (w' : World) : Prop :=
  ∃ a1 c1 a2 c2 a3 c3 a4 c4 a5 c5 ys, e = .returned (.agg #[.int .u64 r, .slice a1 names.length c1, .slice a2 seqs.length c2, .slice a3 n c3, .slice a4 finals.length c4, .slice a5 vals.length c5]) ∧ ys.length = n ∧ NewsC w' a1 a2 a3 a4 a5 names finals seqs vals ys ∧ New5 w a1 a2 a3 a4 a5 ∧ w.grownBy w' none

theorem enS_mem (l : List ByteArray) : ∀ x ∈ enS l, ∃ s, x = Value.string s := fun x hx => by obtain ⟨s, _, rfl⟩ := List.mem_map.1 hx; exact ⟨s, rfl⟩
theorem enW_mem (l : List Int) : ∀ x ∈ enW l, ∃ s, x = Value.int .u64 s := fun x hx => by obtain ⟨s, _, rfl⟩ := List.mem_map.1 hx; exact ⟨s, rfl⟩
theorem enS_len (l : List ByteArray) : (enS l).length = l.length := by rw [enS, List.length_map]
theorem enW_len (l : List Int) : (enW l).length = l.length := by rw [enW, List.length_map]

set_option maxHeartbeats 8000000 in
set_option maxRecDepth 100000 in
theorem cnews12 (w : World) (r : Int) (an aq ap af av : Option Addr) (cn cs cp cf cv : Nat) (names finals : List ByteArray) (seqs vals : List Int) (sss : List (Option Addr × Nat × List ByteArray)) (h : NewsAt w an aq ap af av names finals seqs vals sss) (h1 : names.length ≤ 1048576) (h2 : seqs.length ≤ 1048576) (h3 : sss.length ≤ 1048576) (h3' : ∀ t ∈ sss, t.2.2.length ≤ 1048576) (h4 : finals.length ≤ 1048576) (h5 : vals.length ≤ 1048576) :
    Calls Try.prog 12 #[.agg #[.int .u64 r, .slice an names.length cn, .slice aq seqs.length cs, .slice ap sss.length cp, .slice af finals.length cf, .slice av vals.length cv]] w fun e w' => NewsPost w r names finals seqs vals sss.length e w' := by
  obtain ⟨W, hW⟩ : ∃ W, W = (w.alloc (Obj.cells #[.int .u64 r, .slice an names.length cn, .slice aq seqs.length cs, .slice ap sss.length cp, .slice af finals.length cf, .slice av vals.length cv] 27)).alloc (Obj.cells #[.int .u64 0, .slice none 0 0, .slice none 0 0, .slice none 0 0, .slice none 0 0, .slice none 0 0] 27) := ⟨_, rfl⟩
  have g : w.grownBy W none := by rw [hW]; exact grown_trans (World.grownBy_alloc _ _ _) (World.grownBy_alloc _ _ _)
  have hz : W.heap.size = w.heap.size + 2 := by rw [hW]; simp
  have hB : BlockAt W w.heap.size 27 [.int .u64 r, .slice an names.length cn, .slice aq seqs.length cs, .slice ap sss.length cp, .slice af finals.length cf, .slice av vals.length cv] := by rw [hW]; exact (blockAt_new w 27 _).alloc _
  have hR : BlockAt W (w.heap.size + 1) 27 [.int .u64 0, .slice none 0 0, .slice none 0 0, .slice none 0 0, .slice none 0 0, .slice none 0 0] := by rw [hW]; have := blockAt_new (w.alloc (Obj.cells #[.int .u64 r, .slice an names.length cn, .slice aq seqs.length cs, .slice ap sss.length cp, .slice af finals.length cf, .slice av vals.length cv] 27)) 27 [.int .u64 0, .slice none 0 0, .slice none 0 0, .slice none 0 0, .slice none 0 0, .slice none 0 0]; rwa [World.size_alloc] at this
  have k1 := clone44 W.drew an cn (enS names) (h.grown (grown_drew g)).c1 (enS_mem _) (by rw [enS_len]; exact h1)
  rw [enS_len] at k1
  have H1 := hidC k1
  have HN := (show Hid _ from h)
  have HG := (show Hid _ from g)
  have HR := (show Hid _ from hR)
  clear k1 h g hR
  go_enter Try.func12, Try.ntmps12
  go_upto_region 1 with fail
  rw [← hW]
  clear hW
  refine region_last (fun w' => w'.cell? ⟨w.heap.size, 0, none⟩ = some (.int .u64 r) ∧ w'.cell? ⟨w.heap.size, 1, none⟩ = some (.slice an names.length cn) ∧ w'.cell? ⟨w.heap.size, 2, none⟩ = some (.slice aq seqs.length cs) ∧ w'.cell? ⟨w.heap.size, 3, none⟩ = some (.slice ap sss.length cp) ∧ w'.cell? ⟨w.heap.size, 4, none⟩ = some (.slice af finals.length cf) ∧ w'.cell? ⟨w.heap.size, 5, none⟩ = some (.slice av vals.length cv)) 18 (by kernel_rfl) ?_
  have hS : ((fun w' => w'.cell? ⟨w.heap.size, 0, none⟩ = some (.int .u64 r) ∧ w'.cell? ⟨w.heap.size, 1, none⟩ = some (.slice an names.length cn) ∧ w'.cell? ⟨w.heap.size, 2, none⟩ = some (.slice aq seqs.length cs) ∧ w'.cell? ⟨w.heap.size, 3, none⟩ = some (.slice ap sss.length cp) ∧ w'.cell? ⟨w.heap.size, 4, none⟩ = some (.slice af finals.length cf) ∧ w'.cell? ⟨w.heap.size, 5, none⟩ = some (.slice av vals.length cv)) : World → Prop) W.drew := ⟨(hB).cell 0, (hB).cell 1, (hB).cell 2, (hB).cell 3, (hB).cell 4, (hB).cell 5⟩
  refine AnyL.take (i := 0) (v := ?_) rfl (by kernel_rfl) (by kernel_rfl) (by kernel_rfl) 0 (by kernel_rfl) (by kernel_rfl) (by kernel_rfl) (fun _ _ _ h => h) (Or.inl ⟨by rfl, ?_⟩) hS ?_
  rotate_left
  · intro w' hSw
    (try dsimp only at hSw)
    go_simp
    all_goals with_reducible rfl
  try simp only [Act.put, List.setIfInBounds_toArray, List.set_cons_zero, List.set_cons_succ]
  refine AnyL.take (i := 1) (v := ?_) rfl (by kernel_rfl) (by kernel_rfl) (by kernel_rfl) 1 (by kernel_rfl) (by kernel_rfl) (by kernel_rfl) (fun _ _ _ h => h) (Or.inl ⟨by rfl, ?_⟩) hS ?_
  rotate_left
  · intro w' hSw
    (try dsimp only at hSw)
    go_simp
    all_goals with_reducible rfl
  try simp only [Act.put, List.setIfInBounds_toArray, List.set_cons_zero, List.set_cons_succ]
  refine AnyL.take (i := 2) (v := ?_) rfl (by kernel_rfl) (by kernel_rfl) (by kernel_rfl) 2 (by kernel_rfl) (by kernel_rfl) (by kernel_rfl) (fun _ _ _ h => h) (Or.inl ⟨by rfl, ?_⟩) hS ?_
  rotate_left
  · intro w' hSw
    (try dsimp only at hSw)
    go_simp
    all_goals with_reducible rfl
  try simp only [Act.put, List.setIfInBounds_toArray, List.set_cons_zero, List.set_cons_succ]
  refine AnyL.take (i := 3) (v := ?_) rfl (by kernel_rfl) (by kernel_rfl) (by kernel_rfl) 3 (by kernel_rfl) (by kernel_rfl) (by kernel_rfl) (fun _ _ _ h => h) (Or.inl ⟨by rfl, ?_⟩) hS ?_
  rotate_left
  · intro w' hSw
    (try dsimp only at hSw)
    go_simp
    all_goals with_reducible rfl
  try simp only [Act.put, List.setIfInBounds_toArray, List.set_cons_zero, List.set_cons_succ]
  refine AnyL.take (i := 5) (v := ?_) rfl (by kernel_rfl) (by kernel_rfl) (by kernel_rfl) 5 (by kernel_rfl) (by kernel_rfl) (by kernel_rfl) (fun _ _ _ h => h) (Or.inl ⟨by rfl, ?_⟩) hS ?_
  rotate_left
  · intro w' hSw
    (try dsimp only at hSw)
    go_simp
    all_goals with_reducible rfl
  try simp only [Act.put, List.setIfInBounds_toArray, List.set_cons_zero, List.set_cons_succ]
  refine AnyL.take (i := 6) (v := ?_) rfl (by kernel_rfl) (by kernel_rfl) (by kernel_rfl) 6 (by kernel_rfl) (by kernel_rfl) (by kernel_rfl) (fun _ _ _ h => h) (Or.inl ⟨by rfl, ?_⟩) hS ?_
  rotate_left
  · intro w' hSw
    (try dsimp only at hSw)
    go_simp
    all_goals with_reducible rfl
  try simp only [Act.put, List.setIfInBounds_toArray, List.set_cons_zero, List.set_cons_succ]
  refine AnyL.take (i := 8) (v := ?_) rfl (by kernel_rfl) (by kernel_rfl) (by kernel_rfl) 8 (by kernel_rfl) (by kernel_rfl) (by kernel_rfl) (fun _ _ _ h => h) (Or.inl ⟨by rfl, ?_⟩) hS ?_
  rotate_left
  · intro w' hSw
    (try dsimp only at hSw)
    go_simp
    all_goals with_reducible rfl
  try simp only [Act.put, List.setIfInBounds_toArray, List.set_cons_zero, List.set_cons_succ]
  refine AnyL.take (i := 9) (v := ?_) rfl (by kernel_rfl) (by kernel_rfl) (by kernel_rfl) 9 (by kernel_rfl) (by kernel_rfl) (by kernel_rfl) (fun _ _ _ h => h) (Or.inl ⟨by rfl, ?_⟩) hS ?_
  rotate_left
  · intro w' hSw
    (try dsimp only at hSw)
    go_simp
    all_goals with_reducible rfl
  try simp only [Act.put, List.setIfInBounds_toArray, List.set_cons_zero, List.set_cons_succ]
  refine AnyL.take (i := 11) (v := ?_) rfl (by kernel_rfl) (by kernel_rfl) (by kernel_rfl) 11 (by kernel_rfl) (by kernel_rfl) (by kernel_rfl) (fun _ _ _ h => h) (Or.inl ⟨by rfl, ?_⟩) hS ?_
  rotate_left
  · intro w' hSw
    (try dsimp only at hSw)
    go_simp
    all_goals with_reducible rfl
  try simp only [Act.put, List.setIfInBounds_toArray, List.set_cons_zero, List.set_cons_succ]
  refine AnyL.take (i := 12) (v := ?_) rfl (by kernel_rfl) (by kernel_rfl) (by kernel_rfl) 12 (by kernel_rfl) (by kernel_rfl) (by kernel_rfl) (fun _ _ _ h => h) (Or.inl ⟨by rfl, ?_⟩) hS ?_
  rotate_left
  · intro w' hSw
    (try dsimp only at hSw)
    go_simp
    all_goals with_reducible rfl
  try simp only [Act.put, List.setIfInBounds_toArray, List.set_cons_zero, List.set_cons_succ]
  refine AnyL.take (i := 14) (v := ?_) rfl (by kernel_rfl) (by kernel_rfl) (by kernel_rfl) 14 (by kernel_rfl) (by kernel_rfl) (by kernel_rfl) (fun _ _ _ h => h) (Or.inl ⟨by rfl, ?_⟩) hS ?_
  rotate_left
  · intro w' hSw
    (try dsimp only at hSw)
    go_simp
    all_goals with_reducible rfl
  try simp only [Act.put, List.setIfInBounds_toArray, List.set_cons_zero, List.set_cons_succ]
  refine AnyL.take (i := 15) (v := ?_) rfl (by kernel_rfl) (by kernel_rfl) (by kernel_rfl) 15 (by kernel_rfl) (by kernel_rfl) (by kernel_rfl) (fun _ _ _ h => h) (Or.inl ⟨by rfl, ?_⟩) hS ?_
  rotate_left
  · intro w' hSw
    (try dsimp only at hSw)
    go_simp
    all_goals with_reducible rfl
  try simp only [Act.put, List.setIfInBounds_toArray, List.set_cons_zero, List.set_cons_succ]
  refine AnyL.one (i := 4) rfl (by kernel_rfl) (fun K hK => ?_)
  go_simp
  go_wp2_with (go_at_call 44; refine (H1).out.mono ?_; rintro e1 w1 ⟨a1, c1, rfl, hC1, hN1, g1⟩)
  have hS1 : ((fun w' => w'.cell? ⟨w.heap.size, 0, none⟩ = some (.int .u64 r) ∧ w'.cell? ⟨w.heap.size, 1, none⟩ = some (.slice an names.length cn) ∧ w'.cell? ⟨w.heap.size, 2, none⟩ = some (.slice aq seqs.length cs) ∧ w'.cell? ⟨w.heap.size, 3, none⟩ = some (.slice ap sss.length cp) ∧ w'.cell? ⟨w.heap.size, 4, none⟩ = some (.slice af finals.length cf) ∧ w'.cell? ⟨w.heap.size, 5, none⟩ = some (.slice av vals.length cv)) : World → Prop) _ := ⟨(hB.grown (grown_trans (grown_drew (World.grownBy.refl W _)) g1) (by simp)).cell 0, (hB.grown (grown_trans (grown_drew (World.grownBy.refl W _)) g1) (by simp)).cell 1, (hB.grown (grown_trans (grown_drew (World.grownBy.refl W _)) g1) (by simp)).cell 2, (hB.grown (grown_trans (grown_drew (World.grownBy.refl W _)) g1) (by simp)).cell 3, (hB.grown (grown_trans (grown_drew (World.grownBy.refl W _)) g1) (by simp)).cell 4, (hB.grown (grown_trans (grown_drew (World.grownBy.refl W _)) g1) (by simp)).cell 5⟩
  refine hK.out _ _ (Or.inr hS1) ?_
  clear hK K
  try simp only [Act.put, List.setIfInBounds_toArray, List.set_cons_zero, List.set_cons_succ]
  have K2 := clone45 w1 aq cs (enW seqs) (Cells.grown HN.out.c2 (grown_trans HG.out (grown_trans (grown_drew (World.grownBy.refl W _)) g1))) (enW_mem _) (by rw [enW_len]; exact h2)
  rw [enW_len] at K2
  refine AnyL.one (i := 7) rfl (by kernel_rfl) (fun K hK => ?_)
  go_simp
  go_wp2_with (go_at_call 45; refine K2.mono ?_; rintro e1 w2 ⟨a2, c2, rfl, hC2, hN2, g2⟩)
  have hS2 : ((fun w' => w'.cell? ⟨w.heap.size, 0, none⟩ = some (.int .u64 r) ∧ w'.cell? ⟨w.heap.size, 1, none⟩ = some (.slice an names.length cn) ∧ w'.cell? ⟨w.heap.size, 2, none⟩ = some (.slice aq seqs.length cs) ∧ w'.cell? ⟨w.heap.size, 3, none⟩ = some (.slice ap sss.length cp) ∧ w'.cell? ⟨w.heap.size, 4, none⟩ = some (.slice af finals.length cf) ∧ w'.cell? ⟨w.heap.size, 5, none⟩ = some (.slice av vals.length cv)) : World → Prop) _ := ⟨(hB.grown (grown_trans (grown_trans (grown_drew (World.grownBy.refl W _)) g1) g2) (by simp)).cell 0, (hB.grown (grown_trans (grown_trans (grown_drew (World.grownBy.refl W _)) g1) g2) (by simp)).cell 1, (hB.grown (grown_trans (grown_trans (grown_drew (World.grownBy.refl W _)) g1) g2) (by simp)).cell 2, (hB.grown (grown_trans (grown_trans (grown_drew (World.grownBy.refl W _)) g1) g2) (by simp)).cell 3, (hB.grown (grown_trans (grown_trans (grown_drew (World.grownBy.refl W _)) g1) g2) (by simp)).cell 4, (hB.grown (grown_trans (grown_trans (grown_drew (World.grownBy.refl W _)) g1) g2) (by simp)).cell 5⟩
  refine hK.out _ _ (Or.inr hS2) ?_
  clear hK K
  try simp only [Act.put, List.setIfInBounds_toArray, List.set_cons_zero, List.set_cons_succ]
  have K3 := clone46 w2 ap cp sss (Nest.grown HN.out.c3 (grown_trans HG.out (grown_trans (grown_trans (grown_drew (World.grownBy.refl W _)) g1) g2))) h3 h3'
  refine AnyL.one (i := 10) rfl (by kernel_rfl) (fun K hK => ?_)
  go_simp
  go_wp2_with (go_at_call 46; refine K3.mono ?_; rintro e1 w3 ⟨a3, c3, ys, rfl, hC3, hL3, hSl3, hN3, g3⟩)
  have hS3 : ((fun w' => w'.cell? ⟨w.heap.size, 0, none⟩ = some (.int .u64 r) ∧ w'.cell? ⟨w.heap.size, 1, none⟩ = some (.slice an names.length cn) ∧ w'.cell? ⟨w.heap.size, 2, none⟩ = some (.slice aq seqs.length cs) ∧ w'.cell? ⟨w.heap.size, 3, none⟩ = some (.slice ap sss.length cp) ∧ w'.cell? ⟨w.heap.size, 4, none⟩ = some (.slice af finals.length cf) ∧ w'.cell? ⟨w.heap.size, 5, none⟩ = some (.slice av vals.length cv)) : World → Prop) _ := ⟨(hB.grown (grown_trans (grown_trans (grown_trans (grown_drew (World.grownBy.refl W _)) g1) g2) g3) (by simp)).cell 0, (hB.grown (grown_trans (grown_trans (grown_trans (grown_drew (World.grownBy.refl W _)) g1) g2) g3) (by simp)).cell 1, (hB.grown (grown_trans (grown_trans (grown_trans (grown_drew (World.grownBy.refl W _)) g1) g2) g3) (by simp)).cell 2, (hB.grown (grown_trans (grown_trans (grown_trans (grown_drew (World.grownBy.refl W _)) g1) g2) g3) (by simp)).cell 3, (hB.grown (grown_trans (grown_trans (grown_trans (grown_drew (World.grownBy.refl W _)) g1) g2) g3) (by simp)).cell 4, (hB.grown (grown_trans (grown_trans (grown_trans (grown_drew (World.grownBy.refl W _)) g1) g2) g3) (by simp)).cell 5⟩
  refine hK.out _ _ (Or.inr hS3) ?_
  clear hK K
  try simp only [Act.put, List.setIfInBounds_toArray, List.set_cons_zero, List.set_cons_succ]
  have K4 := clone44 w3 af cf (enS finals) (Cells.grown HN.out.c4 (grown_trans HG.out (grown_trans (grown_trans (grown_trans (grown_drew (World.grownBy.refl W _)) g1) g2) g3))) (enS_mem _) (by rw [enS_len]; exact h4)
  rw [enS_len] at K4
  refine AnyL.one (i := 13) rfl (by kernel_rfl) (fun K hK => ?_)
  go_simp
  go_wp2_with (go_at_call 44; refine K4.mono ?_; rintro e1 w4 ⟨a4, c4, rfl, hC4, hN4, g4⟩)
  have hS4 : ((fun w' => w'.cell? ⟨w.heap.size, 0, none⟩ = some (.int .u64 r) ∧ w'.cell? ⟨w.heap.size, 1, none⟩ = some (.slice an names.length cn) ∧ w'.cell? ⟨w.heap.size, 2, none⟩ = some (.slice aq seqs.length cs) ∧ w'.cell? ⟨w.heap.size, 3, none⟩ = some (.slice ap sss.length cp) ∧ w'.cell? ⟨w.heap.size, 4, none⟩ = some (.slice af finals.length cf) ∧ w'.cell? ⟨w.heap.size, 5, none⟩ = some (.slice av vals.length cv)) : World → Prop) _ := ⟨(hB.grown (grown_trans (grown_trans (grown_trans (grown_trans (grown_drew (World.grownBy.refl W _)) g1) g2) g3) g4) (by simp)).cell 0, (hB.grown (grown_trans (grown_trans (grown_trans (grown_trans (grown_drew (World.grownBy.refl W _)) g1) g2) g3) g4) (by simp)).cell 1, (hB.grown (grown_trans (grown_trans (grown_trans (grown_trans (grown_drew (World.grownBy.refl W _)) g1) g2) g3) g4) (by simp)).cell 2, (hB.grown (grown_trans (grown_trans (grown_trans (grown_trans (grown_drew (World.grownBy.refl W _)) g1) g2) g3) g4) (by simp)).cell 3, (hB.grown (grown_trans (grown_trans (grown_trans (grown_trans (grown_drew (World.grownBy.refl W _)) g1) g2) g3) g4) (by simp)).cell 4, (hB.grown (grown_trans (grown_trans (grown_trans (grown_trans (grown_drew (World.grownBy.refl W _)) g1) g2) g3) g4) (by simp)).cell 5⟩
  refine hK.out _ _ (Or.inr hS4) ?_
  clear hK K
  try simp only [Act.put, List.setIfInBounds_toArray, List.set_cons_zero, List.set_cons_succ]
  have K5 := clone45 w4 av cv (enW vals) (Cells.grown HN.out.c5 (grown_trans HG.out (grown_trans (grown_trans (grown_trans (grown_trans (grown_drew (World.grownBy.refl W _)) g1) g2) g3) g4))) (enW_mem _) (by rw [enW_len]; exact h5)
  rw [enW_len] at K5
  refine AnyL.one (i := 16) rfl (by kernel_rfl) (fun K hK => ?_)
  go_simp
  go_wp2_with (go_at_call 45; refine K5.mono ?_; rintro e1 w5 ⟨a5, c5, rfl, hC5, hN5, g5⟩)
  have hS5 : ((fun w' => w'.cell? ⟨w.heap.size, 0, none⟩ = some (.int .u64 r) ∧ w'.cell? ⟨w.heap.size, 1, none⟩ = some (.slice an names.length cn) ∧ w'.cell? ⟨w.heap.size, 2, none⟩ = some (.slice aq seqs.length cs) ∧ w'.cell? ⟨w.heap.size, 3, none⟩ = some (.slice ap sss.length cp) ∧ w'.cell? ⟨w.heap.size, 4, none⟩ = some (.slice af finals.length cf) ∧ w'.cell? ⟨w.heap.size, 5, none⟩ = some (.slice av vals.length cv)) : World → Prop) _ := ⟨(hB.grown (grown_trans (grown_trans (grown_trans (grown_trans (grown_trans (grown_drew (World.grownBy.refl W _)) g1) g2) g3) g4) g5) (by simp)).cell 0, (hB.grown (grown_trans (grown_trans (grown_trans (grown_trans (grown_trans (grown_drew (World.grownBy.refl W _)) g1) g2) g3) g4) g5) (by simp)).cell 1, (hB.grown (grown_trans (grown_trans (grown_trans (grown_trans (grown_trans (grown_drew (World.grownBy.refl W _)) g1) g2) g3) g4) g5) (by simp)).cell 2, (hB.grown (grown_trans (grown_trans (grown_trans (grown_trans (grown_trans (grown_drew (World.grownBy.refl W _)) g1) g2) g3) g4) g5) (by simp)).cell 3, (hB.grown (grown_trans (grown_trans (grown_trans (grown_trans (grown_trans (grown_drew (World.grownBy.refl W _)) g1) g2) g3) g4) g5) (by simp)).cell 4, (hB.grown (grown_trans (grown_trans (grown_trans (grown_trans (grown_trans (grown_drew (World.grownBy.refl W _)) g1) g2) g3) g4) g5) (by simp)).cell 5⟩
  refine hK.out _ _ (Or.inr hS5) ?_
  clear hK K
  try simp only [Act.put, List.setIfInBounds_toArray, List.set_cons_zero, List.set_cons_succ]
  refine AnyL.take (i := 17) (v := ?_) rfl (by kernel_rfl) (by kernel_rfl) (by kernel_rfl) 17 (by kernel_rfl) (by kernel_rfl) (by kernel_rfl) (fun _ _ _ h => h) (Or.inl ⟨by rfl, ?_⟩) hS5 ?_
  rotate_left
  · intro w' hSw
    (try dsimp only at hSw)
    go_simp
    all_goals with_reducible rfl
  try simp only [Act.put, List.setIfInBounds_toArray, List.set_cons_zero, List.set_cons_succ]
  have hR2 := BlockAt.grown HR.out (grown_trans (grown_trans (grown_trans (grown_trans (grown_trans (grown_drew (World.grownBy.refl W _)) g1) g2) g3) g4) g5) (by simp)
  have r0 := hR2.cell 0
  have r1 := hR2.cell 1
  have r2 := hR2.cell 2
  have r3 := hR2.cell 3
  have r4 := hR2.cell 4
  have r5 := hR2.cell 5
  have s0 := hR2.frozen 0
  have s1 := hR2.frozen 1
  have s2 := hR2.frozen 2
  have s3 := hR2.frozen 3
  have s4 := hR2.frozen 4
  have s5 := hR2.frozen 5
  simp only [List.getElem?_cons_zero, List.getElem?_cons_succ] at r0 r1 r2 r3 r4 r5
  clear hR2
  refine AnyL.one (i := 18) rfl (by kernel_rfl) (fun K hK => ?_)
  go_simp
  refine hK.out _ _ (Or.inl rfl) ?_
  clear hK K
  refine AnyL.done (by kernel_rfl) ?_ _
  go_wp2
  (try simp only [Exit.inBlock, Exit.then])
  refine bodyPost_ret (v := .agg #[.int .u64 r, .slice a1 (enS names).length c1, .slice a2 (enW seqs).length c2, .slice a3 sss.length c3, .slice a4 (enS finals).length c4, .slice a5 (enW vals).length c5]) ?_ rfl ?_
  · rw [results_cell1 rfl]
    go_simp
  · clear r0 r1 r2 r3 r4 r5 s0 s1 s2 s3 s4 s5
    have z1 : W.heap.size ≤ w1.heap.size := g1.size
    have z2 := g2.size
    have z3 := g3.size
    have z4 := g4.size
    have hn : New5 W a1 a2 a3 a4 a5 := ⟨hN1, hN2.older z1, hN3.older (by omega), hN4.older (by omega), hN5.older (by omega)⟩
    have hg : w.heap.size + 1 < W.heap.size := by omega
    have hc : NewsC w5 a1 a2 a3 a4 a5 names finals seqs vals ys := ⟨(((hC1.grown g2).grown g3).grown g4).grown g5, ((hC2.grown g3).grown g4).grown g5, (hC3.grown g4).grown g5, hSl3, hC4.grown g5, hC5⟩
    have hgr := grown_trans HG.out (grown_trans (grown_trans (grown_trans (grown_trans (grown_trans (grown_drew (World.grownBy.refl W _)) g1) g2) g3) g4) g5)
    refine ⟨a1, c1, a2, c2, a3, c3, a4, c4, a5, c5, ys, by rw [enS_len, enS_len, enW_len, enW_len], hL3, ?_, hn.older (by omega), ?_⟩
    · exact (((((hc.set hn hg _).set hn hg _).set hn hg _).set hn hg _).set hn hg _).set hn hg _
    · exact grown_set_new (grown_set_new (grown_set_new (grown_set_new (grown_set_new (grown_set_new hgr (by omega) _) (by omega) _) (by omega) _) (by omega) _) (by omega) _) (by omega) _

/-- A copy of a ZSnap. -/
def SnapPost (w : World) (r sv : Int) (st : ByteArray) (names finals : List ByteArray) (seqs vals : List Int) (n : Nat) (e : Ending) (w' : World) : Prop :=
  ∃ a1 c1 a2 c2 a3 c3 a4 c4 a5 c5 ys, e = .returned (.agg #[.int .u64 r, .slice a1 names.length c1, .slice a2 seqs.length c2, .slice a3 n c3, .slice a4 finals.length c4, .slice a5 vals.length c5, .string st, .int .u64 sv]) ∧ ys.length = n ∧ NewsC w' a1 a2 a3 a4 a5 names finals seqs vals ys ∧ New5 w a1 a2 a3 a4 a5 ∧ w.grownBy w' none

set_option maxHeartbeats 8000000 in
set_option maxRecDepth 100000 in
theorem csnap19 (w : World) (r sv : Int) (st : ByteArray) (an aq ap af av : Option Addr) (cn cs cp cf cv : Nat) (names finals : List ByteArray) (seqs vals : List Int) (sss : List (Option Addr × Nat × List ByteArray)) (h : NewsAt w an aq ap af av names finals seqs vals sss) (h1 : names.length ≤ 1048576) (h2 : seqs.length ≤ 1048576) (h3 : sss.length ≤ 1048576) (h3' : ∀ t ∈ sss, t.2.2.length ≤ 1048576) (h4 : finals.length ≤ 1048576) (h5 : vals.length ≤ 1048576) :
    Calls Try.prog 19 #[.agg #[.int .u64 r, .slice an names.length cn, .slice aq seqs.length cs, .slice ap sss.length cp, .slice af finals.length cf, .slice av vals.length cv, .string st, .int .u64 sv]] w fun e w' => SnapPost w r sv st names finals seqs vals sss.length e w' := by
  obtain ⟨W, hW⟩ : ∃ W, W = (w.alloc (Obj.cells #[.int .u64 r, .slice an names.length cn, .slice aq seqs.length cs, .slice ap sss.length cp, .slice af finals.length cf, .slice av vals.length cv, .string st, .int .u64 sv] 40)).alloc (Obj.cells #[.int .u64 0, .slice none 0 0, .slice none 0 0, .slice none 0 0, .slice none 0 0, .slice none 0 0, .string ⟨#[]⟩, .int .u64 0] 40) := ⟨_, rfl⟩
  have g : w.grownBy W none := by rw [hW]; exact grown_trans (World.grownBy_alloc _ _ _) (World.grownBy_alloc _ _ _)
  have hz : W.heap.size = w.heap.size + 2 := by rw [hW]; simp
  have hB : BlockAt W w.heap.size 40 [.int .u64 r, .slice an names.length cn, .slice aq seqs.length cs, .slice ap sss.length cp, .slice af finals.length cf, .slice av vals.length cv, .string st, .int .u64 sv] := by rw [hW]; exact (blockAt_new w 40 _).alloc _
  have hR : BlockAt W (w.heap.size + 1) 40 [.int .u64 0, .slice none 0 0, .slice none 0 0, .slice none 0 0, .slice none 0 0, .slice none 0 0, .string ⟨#[]⟩, .int .u64 0] := by rw [hW]; have := blockAt_new (w.alloc (Obj.cells #[.int .u64 r, .slice an names.length cn, .slice aq seqs.length cs, .slice ap sss.length cp, .slice af finals.length cf, .slice av vals.length cv, .string st, .int .u64 sv] 40)) 40 [.int .u64 0, .slice none 0 0, .slice none 0 0, .slice none 0 0, .slice none 0 0, .slice none 0 0, .string ⟨#[]⟩, .int .u64 0]; rwa [World.size_alloc] at this
  have H1 := hidC (cnews12 W.drew r an aq ap af av cn cs cp cf cv names finals seqs vals sss (h.grown (grown_drew g)) h1 h2 h3 h3' h4 h5)
  have HG := (show Hid _ from g)
  have HR := (show Hid _ from hR)
  clear h g hR
  go_enter Try.func19, Try.ntmps19
  go_upto_region 1 with fail
  rw [← hW]
  clear hW
  refine region_last (fun w' => w'.cell? ⟨w.heap.size, 0, none⟩ = some (.int .u64 r) ∧ w'.cell? ⟨w.heap.size, 1, none⟩ = some (.slice an names.length cn) ∧ w'.cell? ⟨w.heap.size, 2, none⟩ = some (.slice aq seqs.length cs) ∧ w'.cell? ⟨w.heap.size, 3, none⟩ = some (.slice ap sss.length cp) ∧ w'.cell? ⟨w.heap.size, 4, none⟩ = some (.slice af finals.length cf) ∧ w'.cell? ⟨w.heap.size, 5, none⟩ = some (.slice av vals.length cv) ∧ w'.cell? ⟨w.heap.size, 6, none⟩ = some (.string st) ∧ w'.cell? ⟨w.heap.size, 7, none⟩ = some (.int .u64 sv)) 8 (by kernel_rfl) ?_
  have hS : ((fun w' => w'.cell? ⟨w.heap.size, 0, none⟩ = some (.int .u64 r) ∧ w'.cell? ⟨w.heap.size, 1, none⟩ = some (.slice an names.length cn) ∧ w'.cell? ⟨w.heap.size, 2, none⟩ = some (.slice aq seqs.length cs) ∧ w'.cell? ⟨w.heap.size, 3, none⟩ = some (.slice ap sss.length cp) ∧ w'.cell? ⟨w.heap.size, 4, none⟩ = some (.slice af finals.length cf) ∧ w'.cell? ⟨w.heap.size, 5, none⟩ = some (.slice av vals.length cv) ∧ w'.cell? ⟨w.heap.size, 6, none⟩ = some (.string st) ∧ w'.cell? ⟨w.heap.size, 7, none⟩ = some (.int .u64 sv)) : World → Prop) W.drew := ⟨(hB).cell 0, (hB).cell 1, (hB).cell 2, (hB).cell 3, (hB).cell 4, (hB).cell 5, (hB).cell 6, (hB).cell 7⟩
  refine AnyL.take (i := 0) (v := ?_) rfl (by kernel_rfl) (by kernel_rfl) (by kernel_rfl) 0 (by kernel_rfl) (by kernel_rfl) (by kernel_rfl) (fun _ _ _ h => h) (Or.inl ⟨by rfl, ?_⟩) hS ?_
  rotate_left
  · intro w' hSw
    (try dsimp only at hSw)
    go_simp
    all_goals with_reducible rfl
  try simp only [Act.put, List.setIfInBounds_toArray, List.set_cons_zero, List.set_cons_succ]
  refine AnyL.take (i := 1) (v := ?_) rfl (by kernel_rfl) (by kernel_rfl) (by kernel_rfl) 1 (by kernel_rfl) (by kernel_rfl) (by kernel_rfl) (fun _ _ _ h => h) (Or.inl ⟨by rfl, ?_⟩) hS ?_
  rotate_left
  · intro w' hSw
    (try dsimp only at hSw)
    go_simp
    all_goals with_reducible rfl
  try simp only [Act.put, List.setIfInBounds_toArray, List.set_cons_zero, List.set_cons_succ]
  refine AnyL.take (i := 3) (v := ?_) rfl (by kernel_rfl) (by kernel_rfl) (by kernel_rfl) 3 (by kernel_rfl) (by kernel_rfl) (by kernel_rfl) (fun _ _ _ h => h) (Or.inl ⟨by rfl, ?_⟩) hS ?_
  rotate_left
  · intro w' hSw
    (try dsimp only at hSw)
    go_simp
    all_goals with_reducible rfl
  try simp only [Act.put, List.setIfInBounds_toArray, List.set_cons_zero, List.set_cons_succ]
  refine AnyL.take (i := 4) (v := ?_) rfl (by kernel_rfl) (by kernel_rfl) (by kernel_rfl) 4 (by kernel_rfl) (by kernel_rfl) (by kernel_rfl) (fun _ _ _ h => h) (Or.inl ⟨by rfl, ?_⟩) hS ?_
  rotate_left
  · intro w' hSw
    (try dsimp only at hSw)
    go_simp
    all_goals with_reducible rfl
  try simp only [Act.put, List.setIfInBounds_toArray, List.set_cons_zero, List.set_cons_succ]
  refine AnyL.take (i := 5) (v := ?_) rfl (by kernel_rfl) (by kernel_rfl) (by kernel_rfl) 5 (by kernel_rfl) (by kernel_rfl) (by kernel_rfl) (fun _ _ _ h => h) (Or.inl ⟨by rfl, ?_⟩) hS ?_
  rotate_left
  · intro w' hSw
    (try dsimp only at hSw)
    go_simp
    all_goals with_reducible rfl
  try simp only [Act.put, List.setIfInBounds_toArray, List.set_cons_zero, List.set_cons_succ]
  refine AnyL.take (i := 6) (v := ?_) rfl (by kernel_rfl) (by kernel_rfl) (by kernel_rfl) 6 (by kernel_rfl) (by kernel_rfl) (by kernel_rfl) (fun _ _ _ h => h) (Or.inl ⟨by rfl, ?_⟩) hS ?_
  rotate_left
  · intro w' hSw
    (try dsimp only at hSw)
    go_simp
    all_goals with_reducible rfl
  try simp only [Act.put, List.setIfInBounds_toArray, List.set_cons_zero, List.set_cons_succ]
  refine AnyL.one (i := 2) rfl (by kernel_rfl) (fun K hK => ?_)
  go_simp
  go_wp2_with (go_at_call 12; refine H1.out.mono ?_; rintro e1 w1 ⟨a1, c1, a2, c2, a3, c3, a4, c4, a5, c5, ys, rfl, hL3, hC, hN, g1⟩)
  have hS1 : ((fun w' => w'.cell? ⟨w.heap.size, 0, none⟩ = some (.int .u64 r) ∧ w'.cell? ⟨w.heap.size, 1, none⟩ = some (.slice an names.length cn) ∧ w'.cell? ⟨w.heap.size, 2, none⟩ = some (.slice aq seqs.length cs) ∧ w'.cell? ⟨w.heap.size, 3, none⟩ = some (.slice ap sss.length cp) ∧ w'.cell? ⟨w.heap.size, 4, none⟩ = some (.slice af finals.length cf) ∧ w'.cell? ⟨w.heap.size, 5, none⟩ = some (.slice av vals.length cv) ∧ w'.cell? ⟨w.heap.size, 6, none⟩ = some (.string st) ∧ w'.cell? ⟨w.heap.size, 7, none⟩ = some (.int .u64 sv)) : World → Prop) _ := ⟨(hB.grown (grown_trans (grown_drew (World.grownBy.refl W _)) g1) (by simp)).cell 0, (hB.grown (grown_trans (grown_drew (World.grownBy.refl W _)) g1) (by simp)).cell 1, (hB.grown (grown_trans (grown_drew (World.grownBy.refl W _)) g1) (by simp)).cell 2, (hB.grown (grown_trans (grown_drew (World.grownBy.refl W _)) g1) (by simp)).cell 3, (hB.grown (grown_trans (grown_drew (World.grownBy.refl W _)) g1) (by simp)).cell 4, (hB.grown (grown_trans (grown_drew (World.grownBy.refl W _)) g1) (by simp)).cell 5, (hB.grown (grown_trans (grown_drew (World.grownBy.refl W _)) g1) (by simp)).cell 6, (hB.grown (grown_trans (grown_drew (World.grownBy.refl W _)) g1) (by simp)).cell 7⟩
  refine hK.out _ _ (Or.inr hS1) ?_
  clear hK K
  try simp only [Act.put, List.setIfInBounds_toArray, List.set_cons_zero, List.set_cons_succ]
  refine AnyL.take (i := 7) (v := ?_) rfl (by kernel_rfl) (by kernel_rfl) (by kernel_rfl) 7 (by kernel_rfl) (by kernel_rfl) (by kernel_rfl) (fun _ _ _ h => h) (Or.inl ⟨by rfl, ?_⟩) hS1 ?_
  rotate_left
  · intro w' hSw
    (try dsimp only at hSw)
    go_simp
    all_goals with_reducible rfl
  try simp only [Act.put, List.setIfInBounds_toArray, List.set_cons_zero, List.set_cons_succ]
  have hR2 := BlockAt.grown HR.out (grown_trans (grown_drew (World.grownBy.refl W _)) g1) (by simp)
  have r0 := hR2.cell 0
  have r1 := hR2.cell 1
  have r2 := hR2.cell 2
  have r3 := hR2.cell 3
  have r4 := hR2.cell 4
  have r5 := hR2.cell 5
  have r6 := hR2.cell 6
  have r7 := hR2.cell 7
  have s0 := hR2.frozen 0
  have s1 := hR2.frozen 1
  have s2 := hR2.frozen 2
  have s3 := hR2.frozen 3
  have s4 := hR2.frozen 4
  have s5 := hR2.frozen 5
  have s6 := hR2.frozen 6
  have s7 := hR2.frozen 7
  simp only [List.getElem?_cons_zero, List.getElem?_cons_succ] at r0 r1 r2 r3 r4 r5 r6 r7
  clear hR2
  refine AnyL.one (i := 8) rfl (by kernel_rfl) (fun K hK => ?_)
  go_simp
  refine hK.out _ _ (Or.inl rfl) ?_
  clear hK K
  refine AnyL.done (by kernel_rfl) ?_ _
  go_wp2
  (try simp only [Exit.inBlock, Exit.then])
  refine bodyPost_ret (v := .agg #[.int .u64 r, .slice a1 names.length c1, .slice a2 seqs.length c2, .slice a3 sss.length c3, .slice a4 finals.length c4, .slice a5 vals.length c5, .string st, .int .u64 sv]) ?_ rfl ?_
  · rw [results_cell1 rfl]
    go_simp
  · clear r0 r1 r2 r3 r4 r5 r6 r7 s0 s1 s2 s3 s4 s5 s6 s7
    have hn : New5 W a1 a2 a3 a4 a5 := hN.older (show W.heap.size ≤ W.drew.heap.size from Nat.le_refl _)
    have hg : w.heap.size + 1 < W.heap.size := by omega
    have hgr := grown_trans HG.out (grown_trans (grown_drew (World.grownBy.refl W _)) g1)
    refine ⟨a1, c1, a2, c2, a3, c3, a4, c4, a5, c5, ys, rfl, hL3, ?_, hn.older (by omega), ?_⟩
    · exact (((((((hC.set hn hg _).set hn hg _).set hn hg _).set hn hg _).set hn hg _).set hn hg _).set hn hg _).set hn hg _
    · exact grown_set_new (grown_set_new (grown_set_new (grown_set_new (grown_set_new (grown_set_new (grown_set_new (grown_set_new hgr (by omega) _) (by omega) _) (by omega) _) (by omega) _) (by omega) _) (by omega) _) (by omega) _) (by omega) _

set_option maxHeartbeats 4000000 in
set_option maxRecDepth 100000 in
theorem tosite23 (w : World) (nm : ByteArray) (x y : Value) (hx : ∃ a n c, x = .slice a n c) (hy : ∃ a n c, y = .slice a n c) :
    Calls Try.prog 23 #[.agg #[.string nm, x, y]] w fun e w' => e = .returned (.agg #[.string nm, x, y]) ∧ w.grownBy w' none := by
  obtain ⟨a1, n1, c1, rfl⟩ := hx
  obtain ⟨a2, n2, c2, rfl⟩ := hy
  go_enter Try.func23, Try.ntmps23
  go_wp2
  (try simp only [Exit.inBlock, Exit.then])
  refine bodyPost_ret (v := .agg #[.string nm, .slice a1 n1 c1, .slice a2 n2 c2]) ?_ rfl ⟨rfl, ?_⟩
  · rw [results_cell1 rfl]
    go_simp
  · have hgr : w.grownBy ((w.alloc (Obj.cells #[.string nm, .slice a1 n1 c1, .slice a2 n2 c2] 42)).alloc (Obj.cells #[.string ⟨#[]⟩, .slice none 0 0, .slice none 0 0] 52)) none := grown_trans (World.grownBy_alloc _ _ _) (World.grownBy_alloc _ _ _)
    first
      | exact grown_set_new (g := w.heap.size + 1) (grown_set_new (g := w.heap.size + 1) (grown_set_new (g := w.heap.size + 1) hgr (by omega) _) (by omega) _) (by omega) _
      | exact grown_trans (World.grownBy_alloc _ _ _) (World.grownBy_alloc _ _ _)
      | exact grown_drew (grown_set_new (g := w.heap.size + 1) (grown_set_new (g := w.heap.size + 1) (grown_set_new (g := w.heap.size + 1) hgr (by omega) _) (by omega) _) (by omega) _)

end Go.Proofs.Qxb6601448a
