/-
  The law FnRecordWholeAnswer (7).
-/
import Derived.Test.Qxb6601448aMat
import Derived.Test.Qxb6601448aMdl
import Derived.Test.Qxb6601448aZzb
import Derived.Test.Qxb6601448aLso
namespace Go.Proofs.Qxb6601448a
open Go.RowKit
set_option linter.unusedSimpArgs false

theorem Cells.over {w0 w w' : World} {a : Option Addr} {xs : List Value} {sb : Nat} (h0 : Cells w0 a xs) (hsz : w0.heap.size ≤ sb) (h : Cells w a xs) (g : w.grownBy w' (some sb)) : Cells w' a xs := by
  rcases h with h | ⟨b, off, rfl, hc⟩
  · exact .inl h
  · rcases h0 with h0 | ⟨b0, off0, h1, hc0⟩
    · exact .inl h0
    · injection h1 with h1
      injection h1 with hb ho
      subst hb ho
      refine .inr ⟨b, off, rfl, fun i x hx => ?_⟩
      have hlt0 := World.block_lt_of_cell? w0 _ (hc0 i x hx)
      have hlt := World.block_lt_of_cell? w _ (hc i x hx)
      have hlt0' : b < w0.heap.size := hlt0
      have hlt' : b < w.heap.size := hlt
      have e := g.block b hlt' (fun e => by injection e with e; omega)
      have hcx := hc i x hx
      unfold World.cell? at hcx ⊢
      simp only at hcx ⊢
      rw [e]
      exact hcx

theorem len34 (w : World) (r : Nat) (h : w.heap[r]? = some (.map #[] 0)) : (Builtin.len_ #[34] 3 #[.map (some r)]).run Try.prog w = .ok (.int .i64 0) w := by
  simp [Builtin.len_, run_underlying Try.underlying34, MapKept.run_getObj_map h, goInt, Result.andThen]

def TruePost (w : World) (e : Ending) (w' : World) : Prop := e = .returned (.bool true) ∧ w.grownBy w' none

set_option maxHeartbeats 40000000 in
set_option maxRecDepth 100000 in
theorem law7 (w : World) (r sv rd sq lc : Int) (st nm : ByteArray) (an aq ap af av bp be : Option Addr) (cn cs cp cf cv dp de : Nat) (names finals peers exps : List ByteArray) (seqs vals : List Int) (sss : List (Option Addr × Nat × List ByteArray)) (h : NewsAt w an aq ap af av names finals seqs vals sss) (h2 : SiteAt w bp be peers exps) (hst : st.size ≤ maxLen) (hnm : nm.size ≤ maxLen) :
    Calls Try.prog 7 #[.agg #[.int .u64 r, .slice an names.length cn, .slice aq seqs.length cs, .slice ap sss.length cp, .slice af finals.length cf, .slice av vals.length cv, .string st, .int .u64 sv], .int .u64 rd, .agg #[.string nm, .slice bp peers.length dp, .slice be exps.length de], .int .u64 sq, .int .u64 lc] w fun e w' => TruePost w e w' := by
  obtain ⟨W, hW⟩ : ∃ W, W = (w.alloc (Obj.cells #[.int .u64 r, .slice an names.length cn, .slice aq seqs.length cs, .slice ap sss.length cp, .slice af finals.length cf, .slice av vals.length cv, .string st, .int .u64 sv] 40)).alloc (Obj.cells #[.string nm, .slice bp peers.length dp, .slice be exps.length de] 42) := ⟨_, rfl⟩
  have g : w.grownBy W none := by rw [hW]; exact grown_trans (World.grownBy_alloc _ _ _) (World.grownBy_alloc _ _ _)
  have hzW : W.heap.size = w.heap.size + 2 := by rw [hW]; simp
  have hA : BlockAt W w.heap.size 40 [.int .u64 r, .slice an names.length cn, .slice aq seqs.length cs, .slice ap sss.length cp, .slice af finals.length cf, .slice av vals.length cv, .string st, .int .u64 sv] := by rw [hW]; exact (blockAt_new w 40 _).alloc _
  have hD : BlockAt W (w.heap.size + 1) 42 [.string nm, .slice bp peers.length dp, .slice be exps.length de] := by rw [hW]; have := blockAt_new (w.alloc (Obj.cells #[.int .u64 r, .slice an names.length cn, .slice aq seqs.length cs, .slice ap sss.length cp, .slice af finals.length cf, .slice av vals.length cv, .string st, .int .u64 sv] 40)) 42 [.string nm, .slice bp peers.length dp, .slice be exps.length de]; rwa [World.size_alloc] at this
  have H39 := hidC (zzb39 W r sv rd sq lc st nm an aq ap af av bp be cn cs cp cf cv dp de names finals peers exps seqs vals sss (h.grown g) (h2.grown g) hst hnm)
  have HN := (show Hid _ from h)
  have HS := (show Hid _ from h2)
  have HST := (show Hid _ from hst)
  have HNM := (show Hid _ from hnm)
  have HG := (show Hid _ from g)
  have HA := (show Hid _ from hA)
  have HD := (show Hid _ from hD)
  have a0 : W.cell? ⟨w.heap.size, 0, none⟩ = some (.int .u64 r) := hA.cell 0
  have a1 : W.cell? ⟨w.heap.size, 1, none⟩ = some (.slice an names.length cn) := hA.cell 1
  have a2 : W.cell? ⟨w.heap.size, 2, none⟩ = some (.slice aq seqs.length cs) := hA.cell 2
  have a3 : W.cell? ⟨w.heap.size, 3, none⟩ = some (.slice ap sss.length cp) := hA.cell 3
  have a4 : W.cell? ⟨w.heap.size, 4, none⟩ = some (.slice af finals.length cf) := hA.cell 4
  have a5 : W.cell? ⟨w.heap.size, 5, none⟩ = some (.slice av vals.length cv) := hA.cell 5
  have a6 : W.cell? ⟨w.heap.size, 6, none⟩ = some (.string st) := hA.cell 6
  have a7 : W.cell? ⟨w.heap.size, 7, none⟩ = some (.int .u64 sv) := hA.cell 7
  have d0 : W.cell? ⟨w.heap.size + 1, 0, none⟩ = some (.string nm) := hD.cell 0
  have d1 : W.cell? ⟨w.heap.size + 1, 1, none⟩ = some (.slice bp peers.length dp) := hD.cell 1
  have d2 : W.cell? ⟨w.heap.size + 1, 2, none⟩ = some (.slice be exps.length de) := hD.cell 2
  clear h h2 hst hnm g hA hD
  go_enter Try.func7, Try.ntmps7
  go_upto_region 1 with fail
  rw [← hW]
  clear hW
  go_upto_region 3 with (go_at_call 39; refine H39.out.mono ?_; rintro e1 w1 ⟨⟨b, rfl, hb⟩, g1⟩; cases b)
  · go_wp2
    go_ret
    exact ⟨rfl, grown_trans HG.out g1⟩
  obtain ⟨l1, l2, l3, l3', l4, l5⟩ := hb (by trivial)
  clear a0
  clear a1
  clear a2
  clear a3
  clear a4
  clear a5
  clear a6
  clear a7
  clear d0
  clear d1
  clear d2
  have hA1 := BlockAt.grown HA.out g1 (by simp)
  have hD1 := BlockAt.grown HD.out g1 (by simp)
  have G1 := (show Hid _ from (grown_trans HG.out g1))
  clear H39
  have hst := HST.out
  have hnm := HNM.out
  refine region_last (fun w' => w'.cell? ⟨w.heap.size, 0, none⟩ = some (.int .u64 r) ∧ w'.cell? ⟨w.heap.size, 1, none⟩ = some (.slice an names.length cn) ∧ w'.cell? ⟨w.heap.size, 2, none⟩ = some (.slice aq seqs.length cs) ∧ w'.cell? ⟨w.heap.size, 3, none⟩ = some (.slice ap sss.length cp) ∧ w'.cell? ⟨w.heap.size, 4, none⟩ = some (.slice af finals.length cf) ∧ w'.cell? ⟨w.heap.size, 5, none⟩ = some (.slice av vals.length cv) ∧ w'.cell? ⟨w.heap.size, 6, none⟩ = some (.string st) ∧ w'.cell? ⟨w.heap.size, 7, none⟩ = some (.int .u64 sv) ∧ w'.cell? ⟨w.heap.size + 1, 0, none⟩ = some (.string nm) ∧ w'.cell? ⟨w.heap.size + 1, 1, none⟩ = some (.slice bp peers.length dp) ∧ w'.cell? ⟨w.heap.size + 1, 2, none⟩ = some (.slice be exps.length de)) 999 (by kernel_rfl) ?_
  have hS : ((fun w' => w'.cell? ⟨w.heap.size, 0, none⟩ = some (.int .u64 r) ∧ w'.cell? ⟨w.heap.size, 1, none⟩ = some (.slice an names.length cn) ∧ w'.cell? ⟨w.heap.size, 2, none⟩ = some (.slice aq seqs.length cs) ∧ w'.cell? ⟨w.heap.size, 3, none⟩ = some (.slice ap sss.length cp) ∧ w'.cell? ⟨w.heap.size, 4, none⟩ = some (.slice af finals.length cf) ∧ w'.cell? ⟨w.heap.size, 5, none⟩ = some (.slice av vals.length cv) ∧ w'.cell? ⟨w.heap.size, 6, none⟩ = some (.string st) ∧ w'.cell? ⟨w.heap.size, 7, none⟩ = some (.int .u64 sv) ∧ w'.cell? ⟨w.heap.size + 1, 0, none⟩ = some (.string nm) ∧ w'.cell? ⟨w.heap.size + 1, 1, none⟩ = some (.slice bp peers.length dp) ∧ w'.cell? ⟨w.heap.size + 1, 2, none⟩ = some (.slice be exps.length de)) : World → Prop) w1.drew := ⟨(hA1).cell 0, (hA1).cell 1, (hA1).cell 2, (hA1).cell 3, (hA1).cell 4, (hA1).cell 5, (hA1).cell 6, (hA1).cell 7, (hD1).cell 0, (hD1).cell 1, (hD1).cell 2⟩
  refine AnyL.takeD (i := 0) (v := ?_) (some 20) rfl (by kernel_rfl) (by kernel_rfl) (by kernel_rfl) (by kernel_rfl) (fun _ _ _ h => h) (by rfl) (Or.inl ⟨by rfl, ?_⟩) hS ?_
  rotate_left
  · intro w' hSw
    (try dsimp only at hSw)
    go_simp
    all_goals with_reducible rfl
  try simp only [Act.put, List.setIfInBounds_toArray, List.set_cons_zero, List.set_cons_succ]
  refine AnyL.takeD (i := 2) (v := ?_) (some 22) rfl (by kernel_rfl) (by kernel_rfl) (by kernel_rfl) (by kernel_rfl) (fun _ _ _ h => h) (by rfl) (Or.inl ⟨by rfl, ?_⟩) hS ?_
  rotate_left
  · intro w' hSw
    (try dsimp only at hSw)
    go_simp
    all_goals with_reducible rfl
  try simp only [Act.put, List.setIfInBounds_toArray, List.set_cons_zero, List.set_cons_succ]
  have h16 := snap16 w1.drew r sv st an aq ap af av cn cs cp cf cv names finals seqs vals sss (NewsAt.grown HN.out (grown_drew G1.out)) hst
  refine AnyL.one (i := 1) rfl (by kernel_rfl) (fun K hK => ?_)
  go_simp
  go_wp2_with (go_at_call 16; refine h16.mono ?_; rintro e1 w2 ⟨⟨z1, rfl, hz10, hz11⟩, g2⟩)
  have hS1 : ((fun w' => w'.cell? ⟨w.heap.size, 0, none⟩ = some (.int .u64 r) ∧ w'.cell? ⟨w.heap.size, 1, none⟩ = some (.slice an names.length cn) ∧ w'.cell? ⟨w.heap.size, 2, none⟩ = some (.slice aq seqs.length cs) ∧ w'.cell? ⟨w.heap.size, 3, none⟩ = some (.slice ap sss.length cp) ∧ w'.cell? ⟨w.heap.size, 4, none⟩ = some (.slice af finals.length cf) ∧ w'.cell? ⟨w.heap.size, 5, none⟩ = some (.slice av vals.length cv) ∧ w'.cell? ⟨w.heap.size, 6, none⟩ = some (.string st) ∧ w'.cell? ⟨w.heap.size, 7, none⟩ = some (.int .u64 sv) ∧ w'.cell? ⟨w.heap.size + 1, 0, none⟩ = some (.string nm) ∧ w'.cell? ⟨w.heap.size + 1, 1, none⟩ = some (.slice bp peers.length dp) ∧ w'.cell? ⟨w.heap.size + 1, 2, none⟩ = some (.slice be exps.length de)) : World → Prop) _ := ⟨(hA1.grown (grown_trans (grown_drew (World.grownBy.refl w1 _)) g2) (by simp)).cell 0, (hA1.grown (grown_trans (grown_drew (World.grownBy.refl w1 _)) g2) (by simp)).cell 1, (hA1.grown (grown_trans (grown_drew (World.grownBy.refl w1 _)) g2) (by simp)).cell 2, (hA1.grown (grown_trans (grown_drew (World.grownBy.refl w1 _)) g2) (by simp)).cell 3, (hA1.grown (grown_trans (grown_drew (World.grownBy.refl w1 _)) g2) (by simp)).cell 4, (hA1.grown (grown_trans (grown_drew (World.grownBy.refl w1 _)) g2) (by simp)).cell 5, (hA1.grown (grown_trans (grown_drew (World.grownBy.refl w1 _)) g2) (by simp)).cell 6, (hA1.grown (grown_trans (grown_drew (World.grownBy.refl w1 _)) g2) (by simp)).cell 7, (hD1.grown (grown_trans (grown_drew (World.grownBy.refl w1 _)) g2) (by simp)).cell 0, (hD1.grown (grown_trans (grown_drew (World.grownBy.refl w1 _)) g2) (by simp)).cell 1, (hD1.grown (grown_trans (grown_drew (World.grownBy.refl w1 _)) g2) (by simp)).cell 2⟩
  refine hK.out _ _ (Or.inr hS1) ?_
  clear hK K
  try simp only [Act.put, List.setIfInBounds_toArray, List.set_cons_zero, List.set_cons_succ]
  have h17 := site17 w2 nm bp be dp de peers exps (SiteAt.grown HS.out (grown_trans G1.out (grown_trans (grown_drew (World.grownBy.refl w1 _)) g2))) hnm
  refine AnyL.one (i := 3) rfl (by kernel_rfl) (fun K hK => ?_)
  go_simp
  go_wp2_with (go_at_call 17; refine h17.mono ?_; rintro e1 w3 ⟨⟨z2, rfl, hz20, hz21⟩, g3⟩)
  have hS2 : ((fun w' => w'.cell? ⟨w.heap.size, 0, none⟩ = some (.int .u64 r) ∧ w'.cell? ⟨w.heap.size, 1, none⟩ = some (.slice an names.length cn) ∧ w'.cell? ⟨w.heap.size, 2, none⟩ = some (.slice aq seqs.length cs) ∧ w'.cell? ⟨w.heap.size, 3, none⟩ = some (.slice ap sss.length cp) ∧ w'.cell? ⟨w.heap.size, 4, none⟩ = some (.slice af finals.length cf) ∧ w'.cell? ⟨w.heap.size, 5, none⟩ = some (.slice av vals.length cv) ∧ w'.cell? ⟨w.heap.size, 6, none⟩ = some (.string st) ∧ w'.cell? ⟨w.heap.size, 7, none⟩ = some (.int .u64 sv) ∧ w'.cell? ⟨w.heap.size + 1, 0, none⟩ = some (.string nm) ∧ w'.cell? ⟨w.heap.size + 1, 1, none⟩ = some (.slice bp peers.length dp) ∧ w'.cell? ⟨w.heap.size + 1, 2, none⟩ = some (.slice be exps.length de)) : World → Prop) _ := ⟨(hA1.grown (grown_trans (grown_trans (grown_drew (World.grownBy.refl w1 _)) g2) g3) (by simp)).cell 0, (hA1.grown (grown_trans (grown_trans (grown_drew (World.grownBy.refl w1 _)) g2) g3) (by simp)).cell 1, (hA1.grown (grown_trans (grown_trans (grown_drew (World.grownBy.refl w1 _)) g2) g3) (by simp)).cell 2, (hA1.grown (grown_trans (grown_trans (grown_drew (World.grownBy.refl w1 _)) g2) g3) (by simp)).cell 3, (hA1.grown (grown_trans (grown_trans (grown_drew (World.grownBy.refl w1 _)) g2) g3) (by simp)).cell 4, (hA1.grown (grown_trans (grown_trans (grown_drew (World.grownBy.refl w1 _)) g2) g3) (by simp)).cell 5, (hA1.grown (grown_trans (grown_trans (grown_drew (World.grownBy.refl w1 _)) g2) g3) (by simp)).cell 6, (hA1.grown (grown_trans (grown_trans (grown_drew (World.grownBy.refl w1 _)) g2) g3) (by simp)).cell 7, (hD1.grown (grown_trans (grown_trans (grown_drew (World.grownBy.refl w1 _)) g2) g3) (by simp)).cell 0, (hD1.grown (grown_trans (grown_trans (grown_drew (World.grownBy.refl w1 _)) g2) g3) (by simp)).cell 1, (hD1.grown (grown_trans (grown_trans (grown_drew (World.grownBy.refl w1 _)) g2) g3) (by simp)).cell 2⟩
  refine hK.out _ _ (Or.inr hS2) ?_
  clear hK K
  try simp only [Act.put, List.setIfInBounds_toArray, List.set_cons_zero, List.set_cons_succ]
  refine AnyL.one (i := 4) rfl (by kernel_rfl) (fun K hK => ?_)
  go_simp
  go_wp2_with (go_at_call 9; refine (add9 z1 z2 w3 hz10 hz20 (by omega) (by omega)).mono ?_; rintro e1 w4 ⟨⟨z3, rfl, hz30, hz31⟩, hw4⟩; subst w4)
  have hS3 : ((fun w' => w'.cell? ⟨w.heap.size, 0, none⟩ = some (.int .u64 r) ∧ w'.cell? ⟨w.heap.size, 1, none⟩ = some (.slice an names.length cn) ∧ w'.cell? ⟨w.heap.size, 2, none⟩ = some (.slice aq seqs.length cs) ∧ w'.cell? ⟨w.heap.size, 3, none⟩ = some (.slice ap sss.length cp) ∧ w'.cell? ⟨w.heap.size, 4, none⟩ = some (.slice af finals.length cf) ∧ w'.cell? ⟨w.heap.size, 5, none⟩ = some (.slice av vals.length cv) ∧ w'.cell? ⟨w.heap.size, 6, none⟩ = some (.string st) ∧ w'.cell? ⟨w.heap.size, 7, none⟩ = some (.int .u64 sv) ∧ w'.cell? ⟨w.heap.size + 1, 0, none⟩ = some (.string nm) ∧ w'.cell? ⟨w.heap.size + 1, 1, none⟩ = some (.slice bp peers.length dp) ∧ w'.cell? ⟨w.heap.size + 1, 2, none⟩ = some (.slice be exps.length de)) : World → Prop) _ := hS2
  refine hK.out _ _ (Or.inr hS3) ?_
  clear hK K
  try simp only [Act.put, List.setIfInBounds_toArray, List.set_cons_zero, List.set_cons_succ]
  refine AnyL.takeD (i := 5) (v := ?_) (some 25) rfl (by kernel_rfl) (by kernel_rfl) (by kernel_rfl) (by kernel_rfl) (fun _ _ _ h => h) (by rfl) (Or.inl ⟨by rfl, ?_⟩) hS3 ?_
  rotate_left
  · intro w' hSw
    (try dsimp only at hSw)
    go_simp
    all_goals with_reducible rfl
  try simp only [Act.put, List.setIfInBounds_toArray, List.set_cons_zero, List.set_cons_succ]
  refine AnyL.done (by kernel_rfl) ?_ _
  clear hS hS1 hS2 hS3 h16 h17
  have G3 := (show Hid _ from (grown_trans G1.out (grown_trans (grown_trans (grown_drew (World.grownBy.refl w1 _)) g2) g3)))
  have hA3 := BlockAt.grown hA1 (grown_trans (grown_trans (grown_drew (World.grownBy.refl w1 _)) g2) g3) (by simp)
  have hD3 := BlockAt.grown hD1 (grown_trans (grown_trans (grown_drew (World.grownBy.refl w1 _)) g2) g3) (by simp)
  clear hA1 hD1 g1 g2 g3 G1 HA HD
  by_cases hbig : (1048576 : Int) < z3
  · go_wp2
    go_ret
    exact ⟨rfl, G3.out⟩
  have hbig' : z3 ≤ 1048576 := by omega
  clear hbig
  have d0 : w3.cell? ⟨w.heap.size + 1, 0, none⟩ = some (.string nm) := hD3.cell 0
  have d1 : w3.cell? ⟨w.heap.size + 1, 1, none⟩ = some (.slice bp peers.length dp) := hD3.cell 1
  have d2 : w3.cell? ⟨w.heap.size + 1, 2, none⟩ = some (.slice be exps.length de) := hD3.cell 2
  have H18 := hidC (fit18 w3 nm bp be peers.length dp exps.length de HS.out.l1.1 HS.out.l2.1)
  have HA3 := (show Hid _ from hA3)
  have HD3 := (show Hid _ from hD3)
  clear hA3 hD3
  go_upto_region 7 with (go_at_call 18; refine H18.out.mono ?_; rintro e1 w5 ⟨⟨b, rfl, hb⟩, g5⟩; cases b)
  · go_wp2
    go_ret
    exact ⟨rfl, grown_trans G3.out g5⟩
  obtain ⟨hp4, he4⟩ := hb (by trivial)
  clear d0 d1 d2 H18 hb
  have G5 := (show Hid _ from (grown_trans G3.out g5))
  have hA5 := BlockAt.grown HA3.out g5 (by simp)
  have hD5 := BlockAt.grown HD3.out g5 (by simp)
  have hz5 : w.heap.size + 2 ≤ w5.heap.size := by
    have e1 := hD5.lt
    omega
  have HA5 := (show Hid _ from hA5)
  have HD5 := (show Hid _ from hD5)
  have a0' : w5.cell? ⟨w.heap.size, 0, none⟩ = some (.int .u64 r) := hA5.cell 0
  have a1' : w5.cell? ⟨w.heap.size, 1, none⟩ = some (.slice an names.length cn) := hA5.cell 1
  have a2' : w5.cell? ⟨w.heap.size, 2, none⟩ = some (.slice aq seqs.length cs) := hA5.cell 2
  have a3' : w5.cell? ⟨w.heap.size, 3, none⟩ = some (.slice ap sss.length cp) := hA5.cell 3
  have a4' : w5.cell? ⟨w.heap.size, 4, none⟩ = some (.slice af finals.length cf) := hA5.cell 4
  have a5' : w5.cell? ⟨w.heap.size, 5, none⟩ = some (.slice av vals.length cv) := hA5.cell 5
  have a6' : w5.cell? ⟨w.heap.size, 6, none⟩ = some (.string st) := hA5.cell 6
  have a7' : w5.cell? ⟨w.heap.size, 7, none⟩ = some (.int .u64 sv) := hA5.cell 7
  have H19 := hidC (csnap19 w5 r sv st an aq ap af av cn cs cp cf cv names finals seqs vals sss (NewsAt.grown HN.out G5.out) l1 l2 l3 l3' l4 l5)
  clear hA5 hD5 g5 G3 HA3 HD3
  go_upto_region 8 with (go_at_call 19; refine H19.out.mono ?_; rintro e1 w6 ⟨a1, c1, a2, c2, a3, c3, a4, c4, a5, c5, ys, rfl, hL3, hNC, hN5, g6⟩; have hA6 := BlockAt.grown HA5.out g6 (by simp); have r0 := hA6.cell 0; have r1 := hA6.cell 1; have r2 := hA6.cell 2; have r3 := hA6.cell 3; have r4 := hA6.cell 4; have r5 := hA6.cell 5; have r6 := hA6.cell 6; have r7 := hA6.cell 7; have s0 := hA6.frozen 0; have s1 := hA6.frozen 1; have s2 := hA6.frozen 2; have s3 := hA6.frozen 3; have s4 := hA6.frozen 4; have s5 := hA6.frozen 5; have s6 := hA6.frozen 6; have s7 := hA6.frozen 7; simp only [List.getElem?_cons_zero, List.getElem?_cons_succ] at r0 r1 r2 r3 r4 r5 r6 r7; have HA6 := (show Hid _ from hA6); have HL3 := (show Hid _ from hL3); clear hA6 hL3)
  clear r0 r1 r2 r3 r4 r5 r6 r7 s0 s1 s2 s3 s4 s5 s6 s7 a0' a1' a2' a3' a4' a5' a6' a7'
  obtain ⟨w7, hw7⟩ : ∃ w7, w7 = ((((((((w6.setCell ⟨w.heap.size, 0, none⟩ (.int .u64 r)).setCell ⟨w.heap.size, 1, none⟩ (.slice a1 names.length c1)).setCell ⟨w.heap.size, 2, none⟩ (.slice a2 seqs.length c2)).setCell ⟨w.heap.size, 3, none⟩ (.slice a3 sss.length c3)).setCell ⟨w.heap.size, 4, none⟩ (.slice a4 finals.length c4)).setCell ⟨w.heap.size, 5, none⟩ (.slice a5 vals.length c5)).setCell ⟨w.heap.size, 6, none⟩ (.string st)).setCell ⟨w.heap.size, 7, none⟩ (.int .u64 sv)) := ⟨_, rfl⟩
  rw [← hw7]
  have hA7 : BlockAt w7 w.heap.size 40 [.int .u64 r, .slice a1 names.length c1, .slice a2 seqs.length c2, .slice a3 sss.length c3, .slice a4 finals.length c4, .slice a5 vals.length c5, .string st, .int .u64 sv] := by rw [hw7]; exact (((((((((show BlockAt w6 w.heap.size 40 [.int .u64 r, .slice an names.length cn, .slice aq seqs.length cs, .slice ap sss.length cp, .slice af finals.length cf, .slice av vals.length cv, .string st, .int .u64 sv] from HA6.out).set 0 _).set 1 _).set 2 _).set 3 _).set 4 _).set 5 _).set 6 _).set 7 _)
  have hD7 : BlockAt w7 (w.heap.size + 1) 42 [.string nm, .slice bp peers.length dp, .slice be exps.length de] := by
    have hne : w.heap.size + 1 ≠ w.heap.size := by omega
    rw [hw7]
    exact (((((((((BlockAt.grown HD5.out g6 (by simp)).other hne _).other hne _).other hne _).other hne _).other hne _).other hne _).other hne _).other hne _)
  have hNC7 : NewsC w7 a1 a2 a3 a4 a5 names finals seqs vals ys := by rw [hw7]; exact ((((((((hNC.set hN5 (by omega) _).set hN5 (by omega) _).set hN5 (by omega) _).set hN5 (by omega) _).set hN5 (by omega) _).set hN5 (by omega) _).set hN5 (by omega) _).set hN5 (by omega) _)
  have g7 : w.grownBy w7 none := by rw [hw7]; exact (grown_set_new (g := w.heap.size) (grown_set_new (g := w.heap.size) (grown_set_new (g := w.heap.size) (grown_set_new (g := w.heap.size) (grown_set_new (g := w.heap.size) (grown_set_new (g := w.heap.size) (grown_set_new (g := w.heap.size) (grown_set_new (g := w.heap.size) (grown_trans G5.out g6) (by omega) _) (by omega) _) (by omega) _) (by omega) _) (by omega) _) (by omega) _) (by omega) _) (by omega) _)
  have hz7 : w5.heap.size ≤ w7.heap.size := by rw [hw7]; have := g6.size; simpa [World.setCell] using this
  clear hw7 HA6 HD5 HA5 g6 G5 H19 hNC
  have d0' : w7.cell? ⟨w.heap.size + 1, 0, none⟩ = some (.string nm) := hD7.cell 0
  have d1' : w7.cell? ⟨w.heap.size + 1, 1, none⟩ = some (.slice bp peers.length dp) := hD7.cell 1
  have d2' : w7.cell? ⟨w.heap.size + 1, 2, none⟩ = some (.slice be exps.length de) := hD7.cell 2
  have G7 := (show Hid _ from g7)
  have HA7 := (show Hid _ from hA7)
  have HD7 := (show Hid _ from hD7)
  have HNC7 := (show Hid _ from hNC7)
  have HN5 := (show Hid _ from hN5)
  have H20 := hidC (csite20 w7 nm bp be dp de peers exps (SiteAt.grown HS.out g7) (by omega) (by omega))
  clear g7 hA7 hD7 hNC7 hN5
  go_upto_region 9 with (go_at_call 20; refine H20.out.mono ?_; rintro e1 w8 ⟨p1, q1, p2, q2, rfl, hSA, hNp1, hNp2, g8⟩; have hD8 := BlockAt.grown HD7.out g8 (by simp); have r0 := hD8.cell 0; have r1 := hD8.cell 1; have r2 := hD8.cell 2; have s0 := hD8.frozen 0; have s1 := hD8.frozen 1; have s2 := hD8.frozen 2; simp only [List.getElem?_cons_zero, List.getElem?_cons_succ] at r0 r1 r2; have HD8 := (show Hid _ from hD8); clear hD8)
  clear r0 r1 r2 s0 s1 s2 d0' d1' d2'
  obtain ⟨w9, hw9⟩ : ∃ w9, w9 = (((w8.setCell ⟨w.heap.size + 1, 0, none⟩ (.string nm)).setCell ⟨w.heap.size + 1, 1, none⟩ (.slice p1 peers.length q1)).setCell ⟨w.heap.size + 1, 2, none⟩ (.slice p2 exps.length q2)) := ⟨_, rfl⟩
  rw [← hw9]
  have hD9 : BlockAt w9 (w.heap.size + 1) 42 [.string nm, .slice p1 peers.length q1, .slice p2 exps.length q2] := by rw [hw9]; exact ((((show BlockAt w8 (w.heap.size + 1) 42 [.string nm, .slice bp peers.length dp, .slice be exps.length de] from HD8.out).set 0 _).set 1 _).set 2 _)
  have hA9 : BlockAt w9 w.heap.size 40 [.int .u64 r, .slice a1 names.length c1, .slice a2 seqs.length c2, .slice a3 sss.length c3, .slice a4 finals.length c4, .slice a5 vals.length c5, .string st, .int .u64 sv] := by
    have hne : w.heap.size ≠ w.heap.size + 1 := by omega
    rw [hw9]
    exact ((((BlockAt.grown HA7.out g8 (by simp)).other hne _).other hne _).other hne _)
  have hNC9 : NewsC w9 a1 a2 a3 a4 a5 names finals seqs vals ys := by rw [hw9]; exact ((((NewsC.grown HNC7.out g8).set HN5.out (by omega) _).set HN5.out (by omega) _).set HN5.out (by omega) _)
  have hlt9 : w.heap.size + 1 < w7.heap.size := by omega
  have hSA9 : SiteAt w9 p1 p2 peers exps := by
    rw [hw9]
    exact ⟨((hSA.c1.set (hNp1.ne hlt9) _).set (hNp1.ne hlt9) _).set (hNp1.ne hlt9) _, ((hSA.c2.set (hNp2.ne hlt9) _).set (hNp2.ne hlt9) _).set (hNp2.ne hlt9) _, hSA.l1, hSA.l2⟩
  have g9 : w.grownBy w9 none := by rw [hw9]; exact (grown_set_new (g := w.heap.size + 1) (grown_set_new (g := w.heap.size + 1) (grown_set_new (g := w.heap.size + 1) (grown_trans G7.out g8) (by omega) _) (by omega) _) (by omega) _)
  clear hw9 HD8 HD7 HA7 g8 G7 H20 hSA hNp1 hNp2 HNC7 HN5
  have h13 := tonews13 w9.drew r a1 a2 a3 a4 a5 c1 c2 c3 c4 c5 names finals seqs vals ys (hNC9.grown (grown_drew (World.grownBy.refl w9 _))) l1 l4
  rw [HL3.out] at h13
  have H13 := hidC h13
  have HA9 := (show Hid _ from hA9)
  have HD9 := (show Hid _ from hD9)
  have HSA9 := (show Hid _ from hSA9)
  have G9 := (show Hid _ from g9)
  clear h13 hD9 hSA9 g9 hNC9
  refine region_last (fun w' => w'.cell? ⟨w.heap.size, 0, none⟩ = some (.int .u64 r) ∧ w'.cell? ⟨w.heap.size, 1, none⟩ = some (.slice a1 names.length c1) ∧ w'.cell? ⟨w.heap.size, 2, none⟩ = some (.slice a2 seqs.length c2) ∧ w'.cell? ⟨w.heap.size, 3, none⟩ = some (.slice a3 sss.length c3) ∧ w'.cell? ⟨w.heap.size, 4, none⟩ = some (.slice a4 finals.length c4) ∧ w'.cell? ⟨w.heap.size, 5, none⟩ = some (.slice a5 vals.length c5) ∧ w'.cell? ⟨w.heap.size, 6, none⟩ = some (.string st) ∧ w'.cell? ⟨w.heap.size, 7, none⟩ = some (.int .u64 sv)) 999 (by kernel_rfl) ?_
  have hS : ((fun w' => w'.cell? ⟨w.heap.size, 0, none⟩ = some (.int .u64 r) ∧ w'.cell? ⟨w.heap.size, 1, none⟩ = some (.slice a1 names.length c1) ∧ w'.cell? ⟨w.heap.size, 2, none⟩ = some (.slice a2 seqs.length c2) ∧ w'.cell? ⟨w.heap.size, 3, none⟩ = some (.slice a3 sss.length c3) ∧ w'.cell? ⟨w.heap.size, 4, none⟩ = some (.slice a4 finals.length c4) ∧ w'.cell? ⟨w.heap.size, 5, none⟩ = some (.slice a5 vals.length c5) ∧ w'.cell? ⟨w.heap.size, 6, none⟩ = some (.string st) ∧ w'.cell? ⟨w.heap.size, 7, none⟩ = some (.int .u64 sv)) : World → Prop) w9.drew := ⟨(hA9).cell 0, (hA9).cell 1, (hA9).cell 2, (hA9).cell 3, (hA9).cell 4, (hA9).cell 5, (hA9).cell 6, (hA9).cell 7⟩
  refine AnyL.takeD (i := 0) (v := ?_) (some 33) rfl (by kernel_rfl) (by kernel_rfl) (by kernel_rfl) (by kernel_rfl) (fun _ _ _ h => h) (by rfl) (Or.inl ⟨by rfl, ?_⟩) hS ?_
  rotate_left
  · intro w' hSw
    (try dsimp only at hSw)
    go_simp
    all_goals with_reducible rfl
  try simp only [Act.put, List.setIfInBounds_toArray, List.set_cons_zero, List.set_cons_succ]
  refine AnyL.takeD (i := 1) (v := ?_) (some 34) rfl (by kernel_rfl) (by kernel_rfl) (by kernel_rfl) (by kernel_rfl) (fun _ _ _ h => h) (by rfl) (Or.inl ⟨by rfl, ?_⟩) hS ?_
  rotate_left
  · intro w' hSw
    (try dsimp only at hSw)
    go_simp
    all_goals with_reducible rfl
  try simp only [Act.put, List.setIfInBounds_toArray, List.set_cons_zero, List.set_cons_succ]
  refine AnyL.takeD (i := 3) (v := ?_) (some 36) rfl (by kernel_rfl) (by kernel_rfl) (by kernel_rfl) (by kernel_rfl) (fun _ _ _ h => h) (by rfl) (Or.inl ⟨by rfl, ?_⟩) hS ?_
  rotate_left
  · intro w' hSw
    (try dsimp only at hSw)
    go_simp
    all_goals with_reducible rfl
  try simp only [Act.put, List.setIfInBounds_toArray, List.set_cons_zero, List.set_cons_succ]
  refine AnyL.takeD (i := 4) (v := ?_) (some 37) rfl (by kernel_rfl) (by kernel_rfl) (by kernel_rfl) (by kernel_rfl) (fun _ _ _ h => h) (by rfl) (Or.inl ⟨by rfl, ?_⟩) hS ?_
  rotate_left
  · intro w' hSw
    (try dsimp only at hSw)
    go_simp
    all_goals with_reducible rfl
  try simp only [Act.put, List.setIfInBounds_toArray, List.set_cons_zero, List.set_cons_succ]
  refine AnyL.takeD (i := 5) (v := ?_) (some 38) rfl (by kernel_rfl) (by kernel_rfl) (by kernel_rfl) (by kernel_rfl) (fun _ _ _ h => h) (by rfl) (Or.inl ⟨by rfl, ?_⟩) hS ?_
  rotate_left
  · intro w' hSw
    (try dsimp only at hSw)
    go_simp
    all_goals with_reducible rfl
  try simp only [Act.put, List.setIfInBounds_toArray, List.set_cons_zero, List.set_cons_succ]
  refine AnyL.takeD (i := 6) (v := ?_) (some 39) rfl (by kernel_rfl) (by kernel_rfl) (by kernel_rfl) (by kernel_rfl) (fun _ _ _ h => h) (by rfl) (Or.inl ⟨by rfl, ?_⟩) hS ?_
  rotate_left
  · intro w' hSw
    (try dsimp only at hSw)
    go_simp
    all_goals with_reducible rfl
  try simp only [Act.put, List.setIfInBounds_toArray, List.set_cons_zero, List.set_cons_succ]
  refine AnyL.one (i := 2) rfl (by kernel_rfl) (fun K hK => ?_)
  go_simp
  go_wp2_with (go_at_call 13; refine H13.out.mono ?_; rintro e1 w10 ⟨⟨m1, m2, rfl⟩, g10⟩)
  have hS1 : ((fun w' => w'.cell? ⟨w.heap.size, 0, none⟩ = some (.int .u64 r) ∧ w'.cell? ⟨w.heap.size, 1, none⟩ = some (.slice a1 names.length c1) ∧ w'.cell? ⟨w.heap.size, 2, none⟩ = some (.slice a2 seqs.length c2) ∧ w'.cell? ⟨w.heap.size, 3, none⟩ = some (.slice a3 sss.length c3) ∧ w'.cell? ⟨w.heap.size, 4, none⟩ = some (.slice a4 finals.length c4) ∧ w'.cell? ⟨w.heap.size, 5, none⟩ = some (.slice a5 vals.length c5) ∧ w'.cell? ⟨w.heap.size, 6, none⟩ = some (.string st) ∧ w'.cell? ⟨w.heap.size, 7, none⟩ = some (.int .u64 sv)) : World → Prop) _ := ⟨(hA9.grown (grown_trans (grown_drew (World.grownBy.refl w9 _)) g10) (by simp)).cell 0, (hA9.grown (grown_trans (grown_drew (World.grownBy.refl w9 _)) g10) (by simp)).cell 1, (hA9.grown (grown_trans (grown_drew (World.grownBy.refl w9 _)) g10) (by simp)).cell 2, (hA9.grown (grown_trans (grown_drew (World.grownBy.refl w9 _)) g10) (by simp)).cell 3, (hA9.grown (grown_trans (grown_drew (World.grownBy.refl w9 _)) g10) (by simp)).cell 4, (hA9.grown (grown_trans (grown_drew (World.grownBy.refl w9 _)) g10) (by simp)).cell 5, (hA9.grown (grown_trans (grown_drew (World.grownBy.refl w9 _)) g10) (by simp)).cell 6, (hA9.grown (grown_trans (grown_drew (World.grownBy.refl w9 _)) g10) (by simp)).cell 7⟩
  refine hK.out _ _ (Or.inr hS1) ?_
  clear hK K
  try simp only [Act.put, List.setIfInBounds_toArray, List.set_cons_zero, List.set_cons_succ]
  refine AnyL.takeD (i := 7) (v := ?_) (some 40) rfl (by kernel_rfl) (by kernel_rfl) (by kernel_rfl) (by kernel_rfl) (fun _ _ _ h => h) (by rfl) (Or.inl ⟨by rfl, ?_⟩) hS1 ?_
  rotate_left
  · intro w' hSw
    (try dsimp only at hSw)
    go_simp
    all_goals with_reducible rfl
  try simp only [Act.put, List.setIfInBounds_toArray, List.set_cons_zero, List.set_cons_succ]
  refine AnyL.one (i := 8) rfl (by kernel_rfl) (fun K hK => ?_)
  go_simp
  refine hK.out _ _ (Or.inr ⟨((hA9.grown (grown_trans (grown_drew (World.grownBy.refl w9 _)) g10) (by simp)).alloc (Obj.cells #[.int .u64 r, .map m1, .map m2, .string st, .int .u64 sv] 59)).cell 0, ((hA9.grown (grown_trans (grown_drew (World.grownBy.refl w9 _)) g10) (by simp)).alloc (Obj.cells #[.int .u64 r, .map m1, .map m2, .string st, .int .u64 sv] 59)).cell 1, ((hA9.grown (grown_trans (grown_drew (World.grownBy.refl w9 _)) g10) (by simp)).alloc (Obj.cells #[.int .u64 r, .map m1, .map m2, .string st, .int .u64 sv] 59)).cell 2, ((hA9.grown (grown_trans (grown_drew (World.grownBy.refl w9 _)) g10) (by simp)).alloc (Obj.cells #[.int .u64 r, .map m1, .map m2, .string st, .int .u64 sv] 59)).cell 3, ((hA9.grown (grown_trans (grown_drew (World.grownBy.refl w9 _)) g10) (by simp)).alloc (Obj.cells #[.int .u64 r, .map m1, .map m2, .string st, .int .u64 sv] 59)).cell 4, ((hA9.grown (grown_trans (grown_drew (World.grownBy.refl w9 _)) g10) (by simp)).alloc (Obj.cells #[.int .u64 r, .map m1, .map m2, .string st, .int .u64 sv] 59)).cell 5, ((hA9.grown (grown_trans (grown_drew (World.grownBy.refl w9 _)) g10) (by simp)).alloc (Obj.cells #[.int .u64 r, .map m1, .map m2, .string st, .int .u64 sv] 59)).cell 6, ((hA9.grown (grown_trans (grown_drew (World.grownBy.refl w9 _)) g10) (by simp)).alloc (Obj.cells #[.int .u64 r, .map m1, .map m2, .string st, .int .u64 sv] 59)).cell 7⟩) ?_
  clear hK K
  have hS2 : ((fun w' => w'.cell? ⟨w.heap.size, 0, none⟩ = some (.int .u64 r) ∧ w'.cell? ⟨w.heap.size, 1, none⟩ = some (.slice a1 names.length c1) ∧ w'.cell? ⟨w.heap.size, 2, none⟩ = some (.slice a2 seqs.length c2) ∧ w'.cell? ⟨w.heap.size, 3, none⟩ = some (.slice a3 sss.length c3) ∧ w'.cell? ⟨w.heap.size, 4, none⟩ = some (.slice a4 finals.length c4) ∧ w'.cell? ⟨w.heap.size, 5, none⟩ = some (.slice a5 vals.length c5) ∧ w'.cell? ⟨w.heap.size, 6, none⟩ = some (.string st) ∧ w'.cell? ⟨w.heap.size, 7, none⟩ = some (.int .u64 sv)) : World → Prop) _ := ⟨((hA9.grown (grown_trans (grown_drew (World.grownBy.refl w9 _)) g10) (by simp)).alloc (Obj.cells #[.int .u64 r, .map m1, .map m2, .string st, .int .u64 sv] 59)).cell 0, ((hA9.grown (grown_trans (grown_drew (World.grownBy.refl w9 _)) g10) (by simp)).alloc (Obj.cells #[.int .u64 r, .map m1, .map m2, .string st, .int .u64 sv] 59)).cell 1, ((hA9.grown (grown_trans (grown_drew (World.grownBy.refl w9 _)) g10) (by simp)).alloc (Obj.cells #[.int .u64 r, .map m1, .map m2, .string st, .int .u64 sv] 59)).cell 2, ((hA9.grown (grown_trans (grown_drew (World.grownBy.refl w9 _)) g10) (by simp)).alloc (Obj.cells #[.int .u64 r, .map m1, .map m2, .string st, .int .u64 sv] 59)).cell 3, ((hA9.grown (grown_trans (grown_drew (World.grownBy.refl w9 _)) g10) (by simp)).alloc (Obj.cells #[.int .u64 r, .map m1, .map m2, .string st, .int .u64 sv] 59)).cell 4, ((hA9.grown (grown_trans (grown_drew (World.grownBy.refl w9 _)) g10) (by simp)).alloc (Obj.cells #[.int .u64 r, .map m1, .map m2, .string st, .int .u64 sv] 59)).cell 5, ((hA9.grown (grown_trans (grown_drew (World.grownBy.refl w9 _)) g10) (by simp)).alloc (Obj.cells #[.int .u64 r, .map m1, .map m2, .string st, .int .u64 sv] 59)).cell 6, ((hA9.grown (grown_trans (grown_drew (World.grownBy.refl w9 _)) g10) (by simp)).alloc (Obj.cells #[.int .u64 r, .map m1, .map m2, .string st, .int .u64 sv] 59)).cell 7⟩
  try simp only [Act.put, List.setIfInBounds_toArray, List.set_cons_zero, List.set_cons_succ]
  refine AnyL.takeD (i := 9) (v := ?_) (some 11) rfl (by kernel_rfl) (by kernel_rfl) (by kernel_rfl) (by kernel_rfl) (fun _ _ _ h => h) (by rfl) (Or.inl ⟨by rfl, ?_⟩) hS2 ?_
  rotate_left
  · intro w' hSw
    (try dsimp only at hSw)
    go_simp
    all_goals with_reducible rfl
  try simp only [Act.put, List.setIfInBounds_toArray, List.set_cons_zero, List.set_cons_succ]
  refine AnyL.done (by kernel_rfl) ?_ _
  clear hS hS1 hS2 hA9 H13
  obtain ⟨w11, hw11⟩ : ∃ w11, w11 = w10.alloc (Obj.cells #[.int .u64 r, .map m1, .map m2, .string st, .int .u64 sv] 59) := ⟨_, rfl⟩
  rw [← hw11]
  have gA := grown_trans (grown_drew (World.grownBy.refl w9 _)) g10
  have g11 : w10.grownBy w11 none := by rw [hw11]; exact World.grownBy_alloc _ _ _
  have hsn : BlockAt w11 w10.heap.size 59 [.int .u64 r, .map m1, .map m2, .string st, .int .u64 sv] := by rw [hw11]; exact blockAt_new w10 59 _
  have gB : w9.grownBy w11 none := grown_trans gA g11
  have hD11 := BlockAt.grown HD9.out gB (by simp)
  have hSA11 := SiteAt.grown HSA9.out gB
  have hz9 : w.heap.size + 1 < w9.heap.size := BlockAt.lt HD9.out
  have hz10 : w9.heap.size ≤ w10.heap.size := gA.size
  have G11 := (show Hid _ from (grown_trans G9.out gB))
  obtain ⟨sb, hsb⟩ : ∃ sb, sb = w10.heap.size := ⟨_, rfl⟩
  rw [← hsb] at hsn hz10 ⊢
  have HSN := (show Hid _ from hsn)
  have HD11 := (show Hid _ from hD11)
  have HSA11 := (show Hid _ from hSA11)
  have e0 : w11.cell? ⟨w.heap.size + 1, 0, none⟩ = some (.string nm) := hD11.cell 0
  have e1 : w11.cell? ⟨w.heap.size + 1, 1, none⟩ = some (.slice p1 peers.length q1) := hD11.cell 1
  have e2 : w11.cell? ⟨w.heap.size + 1, 2, none⟩ = some (.slice p2 exps.length q2) := hD11.cell 2
  have H23 := hidC (tosite23 w11 nm (.slice p1 peers.length q1) (.slice p2 exps.length q2) ⟨_, _, _, rfl⟩ ⟨_, _, _, rfl⟩)
  have hpl : peers.length ≤ 1048576 := by omega
  have hel : exps.length ≤ 1048576 := by omega
  clear hsn hD11 hSA11 gA g11 gB hsb hw11 g10
  go_upto_region 11 with (first | (go_at_call 23; refine H23.out.mono ?_; rintro e1 w12 ⟨rfl, g12⟩) | (go_at_call 40; refine (zzrec40 w12 sb rd sq lc nm p1 p2 q1 q2 peers exps _ _ _ _ _ (BlockAt.grown HSN.out g12 (by simp)) (SiteAt.grown HSA11.out g12) hpl hel).mono ?_; rintro e1 w13 ⟨rfl, r1, r2, ra, rc, hR⟩))
  clear e0 e1 e2 H23
  have hD13 : BlockAt w13 (w.heap.size + 1) 42 [.string nm, .slice p1 peers.length q1, .slice p2 exps.length q2] := (BlockAt.grown HD11.out g12 (by simp)).grown hR.grown (fun e => by injection e with e; omega)
  have hC1 : Cells w13 p1 (enS peers) := Cells.over HSA9.out.c1 hz10 (Cells.grown HSA11.out.c1 g12) hR.grown
  have hC2 : Cells w13 p2 (enS exps) := Cells.over HSA9.out.c2 hz10 (Cells.grown HSA11.out.c2 g12) hR.grown
  have hw0 : w.heap.size ≤ sb := by omega
  have g13 : w.grownBy w13 none := grown_row_new (grown_trans G11.out g12) hR.grown hw0
  have h28 := model28 w13.drew p1 p2 q1 q2 peers exps (Cells.grown hC1 (grown_drew (World.grownBy.refl w13 _))) (Cells.grown hC2 (grown_drew (World.grownBy.refl w13 _))) hp4 hel
  have hkl : (keep exps (srt peers)).length ≤ 4096 := Nat.le_trans (keep_len _ _) (by rw [srt_len]; exact hp4)
  obtain ⟨ks, hks⟩ : ∃ ks, ks = keep exps (srt peers) := ⟨_, rfl⟩
  rw [← hks] at hR h28 hkl
  have H28 := hidC h28
  have HR := (show Hid _ from hR)
  have G13 := (show Hid _ from g13)
  clear h28 hC1 hC2 hks g12 hR g13 HSN HD11 HSA11 HSA9 HD9 HA9 G11 G9
  refine region_last (fun w' => w'.cell? ⟨w.heap.size + 1, 0, none⟩ = some (.string nm) ∧ w'.cell? ⟨w.heap.size + 1, 1, none⟩ = some (.slice p1 peers.length q1) ∧ w'.cell? ⟨w.heap.size + 1, 2, none⟩ = some (.slice p2 exps.length q2)) 999 (by kernel_rfl) ?_
  have hS : ((fun w' => w'.cell? ⟨w.heap.size + 1, 0, none⟩ = some (.string nm) ∧ w'.cell? ⟨w.heap.size + 1, 1, none⟩ = some (.slice p1 peers.length q1) ∧ w'.cell? ⟨w.heap.size + 1, 2, none⟩ = some (.slice p2 exps.length q2)) : World → Prop) w13.drew := ⟨(hD13).cell 0, (hD13).cell 1, (hD13).cell 2⟩
  refine AnyL.takeD (i := 0) (v := ?_) (some 49) rfl (by kernel_rfl) (by kernel_rfl) (by kernel_rfl) (by kernel_rfl) (fun _ _ _ h => h) (by rfl) (Or.inl ⟨by rfl, ?_⟩) hS ?_
  rotate_left
  · intro w' hSw
    (try dsimp only at hSw)
    go_simp
    all_goals with_reducible rfl
  try simp only [Act.put, List.setIfInBounds_toArray, List.set_cons_zero, List.set_cons_succ]
  refine AnyL.takeD (i := 1) (v := ?_) (some 50) rfl (by kernel_rfl) (by kernel_rfl) (by kernel_rfl) (by kernel_rfl) (fun _ _ _ h => h) (by rfl) (Or.inl ⟨by rfl, ?_⟩) hS ?_
  rotate_left
  · intro w' hSw
    (try dsimp only at hSw)
    go_simp
    all_goals with_reducible rfl
  try simp only [Act.put, List.setIfInBounds_toArray, List.set_cons_zero, List.set_cons_succ]
  refine AnyL.takeD (i := 2) (v := ?_) (some 51) rfl (by kernel_rfl) (by kernel_rfl) (by kernel_rfl) (by kernel_rfl) (fun _ _ _ h => h) (by rfl) (Or.inl ⟨by rfl, ?_⟩) hS ?_
  rotate_left
  · intro w' hSw
    (try dsimp only at hSw)
    go_simp
    all_goals with_reducible rfl
  try simp only [Act.put, List.setIfInBounds_toArray, List.set_cons_zero, List.set_cons_succ]
  refine AnyL.takeD (i := 3) (v := ?_) (some 52) rfl (by kernel_rfl) (by kernel_rfl) (by kernel_rfl) (by kernel_rfl) (fun _ _ _ h => h) (by rfl) (Or.inl ⟨by rfl, ?_⟩) hS ?_
  rotate_left
  · intro w' hSw
    (try dsimp only at hSw)
    go_simp
    all_goals with_reducible rfl
  try simp only [Act.put, List.setIfInBounds_toArray, List.set_cons_zero, List.set_cons_succ]
  refine AnyL.takeD (i := 4) (v := ?_) (some 53) rfl (by kernel_rfl) (by kernel_rfl) (by kernel_rfl) (by kernel_rfl) (fun _ _ _ h => h) (by rfl) (Or.inl ⟨by rfl, ?_⟩) hS ?_
  rotate_left
  · intro w' hSw
    (try dsimp only at hSw)
    go_simp
    all_goals with_reducible rfl
  try simp only [Act.put, List.setIfInBounds_toArray, List.set_cons_zero, List.set_cons_succ]
  refine AnyL.takeD (i := 5) (v := ?_) (some 54) rfl (by kernel_rfl) (by kernel_rfl) (by kernel_rfl) (by kernel_rfl) (fun _ _ _ h => h) (by rfl) (Or.inl ⟨by rfl, ?_⟩) hS ?_
  rotate_left
  · intro w' hSw
    (try dsimp only at hSw)
    go_simp
    all_goals with_reducible rfl
  try simp only [Act.put, List.setIfInBounds_toArray, List.set_cons_zero, List.set_cons_succ]
  refine AnyL.takeD (i := 6) (v := ?_) (some 55) rfl (by kernel_rfl) (by kernel_rfl) (by kernel_rfl) (by kernel_rfl) (fun _ _ _ h => h) (by rfl) (Or.inl ⟨by rfl, ?_⟩) hS ?_
  rotate_left
  · intro w' hSw
    (try dsimp only at hSw)
    go_simp
    all_goals with_reducible rfl
  try simp only [Act.put, List.setIfInBounds_toArray, List.set_cons_zero, List.set_cons_succ]
  refine AnyL.one (i := 7) rfl (by kernel_rfl) (fun K hK => ?_)
  go_simp
  go_wp2_with (go_at_call 28; refine H28.out.mono ?_; rintro e1 w14 ⟨ka, kc, rfl, hKC, hKN, hKb⟩)
  have hS1 : ((fun w' => w'.cell? ⟨w.heap.size + 1, 0, none⟩ = some (.string nm) ∧ w'.cell? ⟨w.heap.size + 1, 1, none⟩ = some (.slice p1 peers.length q1) ∧ w'.cell? ⟨w.heap.size + 1, 2, none⟩ = some (.slice p2 exps.length q2)) : World → Prop) _ := ⟨(hD13.grown (grown_trans (grown_drew (World.grownBy.refl w13 _)) (grown_below hKb)) (by simp)).cell 0, (hD13.grown (grown_trans (grown_drew (World.grownBy.refl w13 _)) (grown_below hKb)) (by simp)).cell 1, (hD13.grown (grown_trans (grown_drew (World.grownBy.refl w13 _)) (grown_below hKb)) (by simp)).cell 2⟩
  refine hK.out _ _ (Or.inr hS1) ?_
  clear hK K
  try simp only [Act.put, List.setIfInBounds_toArray, List.set_cons_zero, List.set_cons_succ]
  refine AnyL.takeD (i := 8) (v := ?_) (some 57) rfl (by kernel_rfl) (by kernel_rfl) (by kernel_rfl) (by kernel_rfl) (fun _ _ _ h => h) (by rfl) (Or.inl ⟨by rfl, ?_⟩) hS1 ?_
  rotate_left
  · intro w' hSw
    (try dsimp only at hSw)
    go_simp
    all_goals with_reducible rfl
  try simp only [Act.put, List.setIfInBounds_toArray, List.set_cons_zero, List.set_cons_succ]
  refine AnyL.one (i := 9) rfl (by kernel_rfl) (fun K hK => ?_)
  go_simp
  refine hK.out _ _ (Or.inr ⟨((hD13.grown (grown_trans (grown_drew (World.grownBy.refl w13 _)) (grown_below hKb)) (by simp)).alloc (Obj.cells #[.string nm, .int .u64 sq, .slice ka ks.length kc] 64)).cell 0, ((hD13.grown (grown_trans (grown_drew (World.grownBy.refl w13 _)) (grown_below hKb)) (by simp)).alloc (Obj.cells #[.string nm, .int .u64 sq, .slice ka ks.length kc] 64)).cell 1, ((hD13.grown (grown_trans (grown_drew (World.grownBy.refl w13 _)) (grown_below hKb)) (by simp)).alloc (Obj.cells #[.string nm, .int .u64 sq, .slice ka ks.length kc] 64)).cell 2⟩) ?_
  clear hK K
  have hS2 : ((fun w' => w'.cell? ⟨w.heap.size + 1, 0, none⟩ = some (.string nm) ∧ w'.cell? ⟨w.heap.size + 1, 1, none⟩ = some (.slice p1 peers.length q1) ∧ w'.cell? ⟨w.heap.size + 1, 2, none⟩ = some (.slice p2 exps.length q2)) : World → Prop) _ := ⟨((hD13.grown (grown_trans (grown_drew (World.grownBy.refl w13 _)) (grown_below hKb)) (by simp)).alloc (Obj.cells #[.string nm, .int .u64 sq, .slice ka ks.length kc] 64)).cell 0, ((hD13.grown (grown_trans (grown_drew (World.grownBy.refl w13 _)) (grown_below hKb)) (by simp)).alloc (Obj.cells #[.string nm, .int .u64 sq, .slice ka ks.length kc] 64)).cell 1, ((hD13.grown (grown_trans (grown_drew (World.grownBy.refl w13 _)) (grown_below hKb)) (by simp)).alloc (Obj.cells #[.string nm, .int .u64 sq, .slice ka ks.length kc] 64)).cell 2⟩
  try simp only [Act.put, List.setIfInBounds_toArray, List.set_cons_zero, List.set_cons_succ]
  refine AnyL.takeD (i := 10) (v := ?_) (some 12) rfl (by kernel_rfl) (by kernel_rfl) (by kernel_rfl) (by kernel_rfl) (fun _ _ _ h => h) (by rfl) (Or.inl ⟨by rfl, ?_⟩) hS2 ?_
  rotate_left
  · intro w' hSw
    (try dsimp only at hSw)
    go_simp
    all_goals with_reducible rfl
  try simp only [Act.put, List.setIfInBounds_toArray, List.set_cons_zero, List.set_cons_succ]
  refine AnyL.done (by kernel_rfl) ?_ _
  clear hS hS1 hS2 H28
  obtain ⟨w15, hw15⟩ : ∃ w15, w15 = w14.alloc (Obj.cells #[.string nm, .int .u64 sq, .slice ka ks.length kc] 64) := ⟨_, rfl⟩
  rw [← hw15]
  have gE : w13.grownBy w14 none := grown_trans (grown_drew (World.grownBy.refl w13 _)) (grown_below hKb)
  have gF : w14.grownBy w15 none := by rw [hw15]; exact World.grownBy_alloc _ _ _
  have hE : BlockAt w15 w14.heap.size 64 [.string nm, .int .u64 sq, .slice ka ks.length kc] := by rw [hw15]; exact blockAt_new w14 64 _
  have gEF := grown_trans gE gF
  have hsn15 := BlockAt.grown HR.out.snap gEF (by simp)
  have hD15 := BlockAt.grown hD13 gEF (by simp)
  have hm1 : w15.heap[r1]? = _ := (gEF.block r1 (Array.getElem?_eq_some_iff.1 HR.out.m1).1 (by simp)).trans HR.out.m1
  have hm2 : w15.heap[r2]? = some (.map #[] 0) := (gEF.block r2 (Array.getElem?_eq_some_iff.1 HR.out.m2).1 (by simp)).trans HR.out.m2
  have hgd := grown_drew (World.grownBy.refl w15 none)
  have h26 := match26 w15.drew r1 w14.heap.size sq nm ks ra ka rc kc hm1 (hE.grown hgd (by simp)) ((Cells.grown HR.out.cells gEF).grown hgd) ((hKC.grown gF).grown hgd) (by omega)
  obtain ⟨eb, heb⟩ : ∃ eb, eb = w14.heap.size := ⟨_, rfl⟩
  rw [← heb] at h26 ⊢
  have H26 := hidC h26
  have G15 := (show Hid _ from (grown_trans G13.out gEF))
  clear h26 gE gF hE gEF hm1 heb hw15 hKC hKN hKb HR G13 hD13
  have q1 : ((rd : Int) == rd) = true := by simp
  have q2 : (nm.toList == nm.toList) = true := by simp
  have q3 : ((lc : Int) == lc) = true := by simp
  go_upto_region 12 with fail
  refine region_last (fun w' => w'.cell? ⟨sb, 0, none⟩ = some (.int .u64 rd) ∧ w'.cell? ⟨sb, 1, none⟩ = some (.map (some r1)) ∧ w'.cell? ⟨sb, 2, none⟩ = some (.map (some r2)) ∧ w'.cell? ⟨sb, 3, none⟩ = some (.string nm) ∧ w'.cell? ⟨sb, 4, none⟩ = some (.int .u64 lc) ∧ w'.cell? ⟨w.heap.size + 1, 0, none⟩ = some (.string nm) ∧ w'.heap[r2]? = some (.map #[] 0)) 999 (by kernel_rfl) ?_
  have hS : ((fun w' => w'.cell? ⟨sb, 0, none⟩ = some (.int .u64 rd) ∧ w'.cell? ⟨sb, 1, none⟩ = some (.map (some r1)) ∧ w'.cell? ⟨sb, 2, none⟩ = some (.map (some r2)) ∧ w'.cell? ⟨sb, 3, none⟩ = some (.string nm) ∧ w'.cell? ⟨sb, 4, none⟩ = some (.int .u64 lc) ∧ w'.cell? ⟨w.heap.size + 1, 0, none⟩ = some (.string nm) ∧ w'.heap[r2]? = some (.map #[] 0)) : World → Prop) w15.drew := ⟨(hsn15).cell 0, (hsn15).cell 1, (hsn15).cell 2, (hsn15).cell 3, (hsn15).cell 4, (hD15).cell 0, hm2⟩
  refine AnyL.takeD (i := 0) (v := ?_) (some 59) rfl (by kernel_rfl) (by kernel_rfl) (by kernel_rfl) (by kernel_rfl) (fun _ _ _ h => h) (by rfl) (Or.inl ⟨by rfl, ?_⟩) hS ?_
  rotate_left
  · intro w' hSw
    (try dsimp only at hSw)
    go_simp
    all_goals with_reducible rfl
  try simp only [Act.put, List.setIfInBounds_toArray, List.set_cons_zero, List.set_cons_succ]
  refine AnyL.takeD (i := 1) (v := ?_) (some 60) rfl (by kernel_rfl) (by kernel_rfl) (by kernel_rfl) (by kernel_rfl) (fun _ _ _ h => h) (by rfl) (Or.inl ⟨by rfl, ?_⟩) hS ?_
  rotate_left
  · intro w' hSw
    (try dsimp only at hSw)
    go_simp
    all_goals with_reducible rfl
  try simp only [Act.put, List.setIfInBounds_toArray, List.set_cons_zero, List.set_cons_succ]
  refine AnyL.takeD (i := 2) (v := ?_) (some 61) rfl (by kernel_rfl) (by kernel_rfl) (by kernel_rfl) (by kernel_rfl) (fun _ _ _ h => h) (by rfl) (Or.inl ⟨by rfl, ?_⟩) hS ?_
  rotate_left
  · intro w' hSw
    (try dsimp only at hSw)
    go_simp
    all_goals with_reducible rfl
  try simp only [Act.put, List.setIfInBounds_toArray, List.set_cons_zero, List.set_cons_succ]
  refine AnyL.takeD (i := 3) (v := ?_) (some 62) rfl (by kernel_rfl) (by kernel_rfl) (by kernel_rfl) (by kernel_rfl) (fun _ _ _ h => h) (by rfl) (Or.inl ⟨by rfl, ?_⟩) hS ?_
  rotate_left
  · intro w' hSw
    (try dsimp only at hSw)
    go_simp
    all_goals with_reducible rfl
  try simp only [Act.put, List.setIfInBounds_toArray, List.set_cons_zero, List.set_cons_succ]
  refine AnyL.takeD (i := 4) (v := ?_) (some 63) rfl (by kernel_rfl) (by kernel_rfl) (by kernel_rfl) (by kernel_rfl) (fun _ _ _ h => h) (by rfl) (Or.inl ⟨by rfl, ?_⟩) hS ?_
  rotate_left
  · intro w' hSw
    (try dsimp only at hSw)
    go_simp
    all_goals with_reducible rfl
  try simp only [Act.put, List.setIfInBounds_toArray, List.set_cons_zero, List.set_cons_succ]
  refine AnyL.takeD (i := 5) (v := ?_) (some 64) rfl (by kernel_rfl) (by kernel_rfl) (by kernel_rfl) (by kernel_rfl) (fun _ _ _ h => h) (by rfl) (Or.inl ⟨by rfl, ?_⟩) hS ?_
  rotate_left
  · intro w' hSw
    (try dsimp only at hSw)
    go_simp
    all_goals with_reducible rfl
  try simp only [Act.put, List.setIfInBounds_toArray, List.set_cons_zero, List.set_cons_succ]
  refine AnyL.takeD (i := 6) (v := ?_) (some 65) rfl (by kernel_rfl) (by kernel_rfl) (by kernel_rfl) (by kernel_rfl) (fun _ _ _ h => h) (by rfl) (Or.inl ⟨by rfl, ?_⟩) hS ?_
  rotate_left
  · intro w' hSw
    (try dsimp only at hSw)
    go_simp
    all_goals with_reducible rfl
  try simp only [Act.put, List.setIfInBounds_toArray, List.set_cons_zero, List.set_cons_succ]
  refine AnyL.takeD (i := 7) (v := ?_) (some 66) rfl (by kernel_rfl) (by kernel_rfl) (by kernel_rfl) (by kernel_rfl) (fun _ _ _ h => h) (by rfl) (Or.inl ⟨by rfl, ?_⟩) hS ?_
  rotate_left
  · intro w' hSw
    (try dsimp only at hSw)
    go_simp
    all_goals with_reducible rfl
  try simp only [Act.put, List.setIfInBounds_toArray, List.set_cons_zero, List.set_cons_succ]
  refine AnyL.takeD (i := 8) (v := ?_) (some 67) rfl (by kernel_rfl) (by kernel_rfl) (by kernel_rfl) (by kernel_rfl) (fun _ _ _ h => h) (by rfl) (Or.inl ⟨by kernel_rfl, ?_⟩) hS ?_
  rotate_left
  · intro w' hSw
    (try dsimp only at hSw)
    go_simp
    all_goals with_reducible rfl
  try simp only [Act.put, List.setIfInBounds_toArray, List.set_cons_zero, List.set_cons_succ]
  refine AnyL.takeD (i := 9) (v := ?_) (some 68) rfl (by kernel_rfl) (by kernel_rfl) (by kernel_rfl) (by kernel_rfl) (fun _ _ _ h => h) (by rfl) (Or.inl ⟨by kernel_rfl, ?_⟩) hS ?_
  rotate_left
  · intro w' hSw
    (try dsimp only at hSw)
    go_simp
    all_goals with_reducible rfl
  try simp only [Act.put, List.setIfInBounds_toArray, List.set_cons_zero, List.set_cons_succ]
  refine AnyL.takeD (i := 10) (v := ?_) (some 69) rfl (by kernel_rfl) (by kernel_rfl) (by kernel_rfl) (by kernel_rfl) (fun _ _ _ h => h) (by rfl) (Or.inl ⟨by kernel_rfl, ?_⟩) hS ?_
  rotate_left
  · intro w' hSw
    (try dsimp only at hSw)
    go_simp
    all_goals with_reducible rfl
  try simp only [Act.put, List.setIfInBounds_toArray, List.set_cons_zero, List.set_cons_succ]
  refine AnyL.takeD (i := 11) (v := ?_) (some 70) rfl (by kernel_rfl) (by kernel_rfl) (by kernel_rfl) (by kernel_rfl) (fun _ _ _ h => h) (by rfl) (Or.inl ⟨by kernel_rfl, ?_⟩) hS ?_
  rotate_left
  · intro w' hSw
    (try dsimp only at hSw)
    go_simp
    all_goals with_reducible rfl
  try simp only [Act.put, List.setIfInBounds_toArray, List.set_cons_zero, List.set_cons_succ]
  refine AnyL.takeD (i := 12) (v := ?_) (some 71) rfl (by kernel_rfl) (by kernel_rfl) (by kernel_rfl) (by kernel_rfl) (fun _ _ _ h => h) (by rfl) (Or.inl ⟨by kernel_rfl, ?_⟩) hS ?_
  rotate_left
  · intro w' hSw
    (try dsimp only at hSw)
    go_simp
    all_goals with_reducible rfl
  try simp only [Act.put, List.setIfInBounds_toArray, List.set_cons_zero, List.set_cons_succ]
  refine AnyL.takeD (i := 13) (v := ?_) (some 72) rfl (by kernel_rfl) (by kernel_rfl) (by kernel_rfl) (by kernel_rfl) (fun _ _ _ h => h) (by rfl) (Or.inl ⟨by kernel_rfl, ?_⟩) hS ?_
  rotate_left
  · intro w' hSw
    (try dsimp only at hSw)
    go_simp
    all_goals with_reducible rfl
  try simp only [Act.put, List.setIfInBounds_toArray, List.set_cons_zero, List.set_cons_succ]
  refine AnyL.takeD (i := 14) (v := ?_) (some 73) rfl (by kernel_rfl) (by kernel_rfl) (by kernel_rfl) (by kernel_rfl) (fun _ _ _ h => h) (by rfl) (Or.inl ⟨by kernel_rfl, ?_⟩) hS ?_
  rotate_left
  · intro w' hSw
    (try dsimp only at hSw)
    go_simp
    all_goals with_reducible rfl
  try simp only [Act.put, List.setIfInBounds_toArray, List.set_cons_zero, List.set_cons_succ]
  refine AnyL.takeD (i := 15) (v := ?_) (some 74) rfl (by kernel_rfl) (by kernel_rfl) (by kernel_rfl) (by kernel_rfl) (fun _ _ _ h => h) (by rfl) (Or.inl ⟨by rfl, ?_⟩) hS ?_
  rotate_left
  · intro w' hSw
    (try dsimp only at hSw)
    go_simp
    all_goals with_reducible rfl
  try simp only [Act.put, List.setIfInBounds_toArray, List.set_cons_zero, List.set_cons_succ]
  refine AnyL.takeD (i := 16) (v := ?_) (some 75) rfl (by kernel_rfl) (by kernel_rfl) (by kernel_rfl) (by kernel_rfl) (fun _ _ _ h => h) (by rfl) (Or.inl ⟨by rfl, ?_⟩) hS ?_
  rotate_left
  · intro w' hSw
    (try dsimp only at hSw)
    go_simp
    all_goals with_reducible rfl
  try simp only [Act.put, List.setIfInBounds_toArray, List.set_cons_zero, List.set_cons_succ]
  refine AnyL.takeD (i := 17) (v := ?_) (some 76) rfl (by kernel_rfl) (by kernel_rfl) (by kernel_rfl) (by kernel_rfl) (fun _ _ _ h => h) (by rfl) (Or.inl ⟨by kernel_rfl, ?_⟩) hS ?_
  rotate_left
  · intro w' hSw
    (try dsimp only at hSw)
    go_simp
    all_goals with_reducible rfl
  try simp only [Act.put, List.setIfInBounds_toArray, List.set_cons_zero, List.set_cons_succ]
  refine AnyL.takeD (i := 18) (v := ?_) (some 77) rfl (by kernel_rfl) (by kernel_rfl) (by kernel_rfl) (by kernel_rfl) (fun _ _ _ h => h) (by rfl) (Or.inl ⟨by kernel_rfl, ?_⟩) hS ?_
  rotate_left
  · intro w' hSw
    (try dsimp only at hSw)
    go_simp
    all_goals with_reducible rfl
  try simp only [Act.put, List.setIfInBounds_toArray, List.set_cons_zero, List.set_cons_succ]
  refine AnyL.takeD (i := 19) (v := ?_) (some 78) rfl (by kernel_rfl) (by kernel_rfl) (by kernel_rfl) (by kernel_rfl) (fun _ _ _ h => h) (by rfl) (Or.inl ⟨by kernel_rfl, ?_⟩) hS ?_
  rotate_left
  · intro w' hSw
    (try dsimp only at hSw)
    go_simp
    all_goals with_reducible rfl
  try simp only [Act.put, List.setIfInBounds_toArray, List.set_cons_zero, List.set_cons_succ]
  refine AnyL.takeD (i := 20) (v := ?_) (some 79) rfl (by kernel_rfl) (by kernel_rfl) (by kernel_rfl) (by kernel_rfl) (fun _ _ _ h => h) (by rfl) (Or.inl ⟨by kernel_rfl, ?_⟩) hS ?_
  rotate_left
  · intro w' hSw
    (try dsimp only at hSw)
    go_simp
    all_goals with_reducible rfl
  try simp only [Act.put, List.setIfInBounds_toArray, List.set_cons_zero, List.set_cons_succ]
  refine AnyL.takeD (i := 21) (v := ?_) (some 80) rfl (by kernel_rfl) (by kernel_rfl) (by kernel_rfl) (by kernel_rfl) (fun _ _ _ h => h) (by rfl) (Or.inl ⟨by kernel_rfl, ?_⟩) hS ?_
  rotate_left
  · intro w' hSw
    (try dsimp only at hSw)
    go_simp
    all_goals with_reducible rfl
  try simp only [Act.put, List.setIfInBounds_toArray, List.set_cons_zero, List.set_cons_succ]
  refine AnyL.takeD (i := 22) (v := ?_) (some 81) rfl (by kernel_rfl) (by kernel_rfl) (by kernel_rfl) (by kernel_rfl) (fun _ _ _ h => h) (by rfl) (Or.inl ⟨by kernel_rfl, ?_⟩) hS ?_
  rotate_left
  · intro w' hSw
    (try dsimp only at hSw)
    go_simp
    all_goals with_reducible rfl
  try simp only [Act.put, List.setIfInBounds_toArray, List.set_cons_zero, List.set_cons_succ]
  refine AnyL.takeD (i := 23) (v := ?_) (some 82) rfl (by kernel_rfl) (by kernel_rfl) (by kernel_rfl) (by kernel_rfl) (fun _ _ _ h => h) (by rfl) (Or.inl ⟨by rfl, ?_⟩) hS ?_
  rotate_left
  · intro w' hSw
    (try dsimp only at hSw)
    go_simp
    all_goals with_reducible rfl
  try simp only [Act.put, List.setIfInBounds_toArray, List.set_cons_zero, List.set_cons_succ]
  refine AnyL.takeD (i := 24) (v := ?_) (some 83) rfl (by kernel_rfl) (by kernel_rfl) (by kernel_rfl) (by kernel_rfl) (fun _ _ _ h => h) (by rfl) (Or.inl ⟨by rfl, ?_⟩) hS ?_
  rotate_left
  · intro w' hSw
    (try dsimp only at hSw)
    go_simp
    all_goals with_reducible rfl
  try simp only [Act.put, List.setIfInBounds_toArray, List.set_cons_zero, List.set_cons_succ]
  refine AnyL.takeD (i := 25) (v := ?_) (some 84) rfl (by kernel_rfl) (by kernel_rfl) (by kernel_rfl) (by kernel_rfl) (fun _ _ _ h => h) (by rfl) (Or.inl ⟨by kernel_rfl, ?_⟩) hS ?_
  rotate_left
  · intro w' hSw
    (try dsimp only at hSw)
    go_simp
    all_goals with_reducible rfl
  try simp only [Act.put, List.setIfInBounds_toArray, List.set_cons_zero, List.set_cons_succ]
  refine AnyL.takeD (i := 26) (v := ?_) (some 85) rfl (by kernel_rfl) (by kernel_rfl) (by kernel_rfl) (by kernel_rfl) (fun _ _ _ h => h) (by rfl) (Or.inl ⟨by kernel_rfl, ?_⟩) hS ?_
  rotate_left
  · intro w' hSw
    (try dsimp only at hSw)
    go_simp
    all_goals with_reducible rfl
  try simp only [Act.put, List.setIfInBounds_toArray, List.set_cons_zero, List.set_cons_succ]
  refine AnyL.takeD (i := 27) (v := ?_) (some 86) rfl (by kernel_rfl) (by kernel_rfl) (by kernel_rfl) (by kernel_rfl) (fun _ _ _ h => h) (by rfl) (Or.inl ⟨by kernel_rfl, ?_⟩) hS ?_
  rotate_left
  · intro w' hSw
    (try dsimp only at hSw)
    go_simp
    all_goals with_reducible rfl
  try simp only [Act.put, List.setIfInBounds_toArray, List.set_cons_zero, List.set_cons_succ]
  refine AnyL.takeD (i := 28) (v := ?_) (some 87) rfl (by kernel_rfl) (by kernel_rfl) (by kernel_rfl) (by kernel_rfl) (fun _ _ _ h => h) (by rfl) (Or.inl ⟨by kernel_rfl, ?_⟩) hS ?_
  rotate_left
  · intro w' hSw
    (try dsimp only at hSw)
    go_simp
    all_goals with_reducible rfl
  try simp only [Act.put, List.setIfInBounds_toArray, List.set_cons_zero, List.set_cons_succ]
  refine AnyL.takeD (i := 29) (v := ?_) (some 88) rfl (by kernel_rfl) (by kernel_rfl) (by kernel_rfl) (by kernel_rfl) (fun _ _ _ h => h) (by rfl) (Or.inl ⟨by kernel_rfl, ?_⟩) hS ?_
  rotate_left
  · intro w' hSw
    (try dsimp only at hSw)
    go_simp
    all_goals with_reducible rfl
  try simp only [Act.put, List.setIfInBounds_toArray, List.set_cons_zero, List.set_cons_succ]
  refine AnyL.takeD (i := 30) (v := ?_) (some 89) rfl (by kernel_rfl) (by kernel_rfl) (by kernel_rfl) (by kernel_rfl) (fun _ _ _ h => h) (by rfl) (Or.inl ⟨by kernel_rfl, ?_⟩) hS ?_
  rotate_left
  · intro w' hSw
    (try dsimp only at hSw)
    go_simp
    all_goals with_reducible rfl
  try simp only [Act.put, List.setIfInBounds_toArray, List.set_cons_zero, List.set_cons_succ]
  refine AnyL.one (i := 31) rfl (by kernel_rfl) (fun K hK => ?_)
  go_simp
  go_wp2_with (go_at_call 26; refine H26.out.mono ?_; rintro e1 w16 ⟨rfl, g16⟩)
  have hS1 : ((fun w' => w'.cell? ⟨sb, 0, none⟩ = some (.int .u64 rd) ∧ w'.cell? ⟨sb, 1, none⟩ = some (.map (some r1)) ∧ w'.cell? ⟨sb, 2, none⟩ = some (.map (some r2)) ∧ w'.cell? ⟨sb, 3, none⟩ = some (.string nm) ∧ w'.cell? ⟨sb, 4, none⟩ = some (.int .u64 lc) ∧ w'.cell? ⟨w.heap.size + 1, 0, none⟩ = some (.string nm) ∧ w'.heap[r2]? = some (.map #[] 0)) : World → Prop) _ := ⟨((hsn15.grown (grown_trans (grown_drew (World.grownBy.refl w15 _)) g16) (by simp))).cell 0, ((hsn15.grown (grown_trans (grown_drew (World.grownBy.refl w15 _)) g16) (by simp))).cell 1, ((hsn15.grown (grown_trans (grown_drew (World.grownBy.refl w15 _)) g16) (by simp))).cell 2, ((hsn15.grown (grown_trans (grown_drew (World.grownBy.refl w15 _)) g16) (by simp))).cell 3, ((hsn15.grown (grown_trans (grown_drew (World.grownBy.refl w15 _)) g16) (by simp))).cell 4, ((hD15.grown (grown_trans (grown_drew (World.grownBy.refl w15 _)) g16) (by simp))).cell 0, (((grown_trans (grown_drew (World.grownBy.refl w15 _)) g16).block r2 (Array.getElem?_eq_some_iff.1 hm2).1 (by simp)).trans hm2)⟩
  refine hK.out _ _ (Or.inr hS1) ?_
  clear hK K
  try simp only [Act.put, List.setIfInBounds_toArray, List.set_cons_zero, List.set_cons_succ]
  refine AnyL.takeD (i := 32) (v := ?_) (some 91) rfl (by kernel_rfl) (by kernel_rfl) (by kernel_rfl) (by kernel_rfl) (fun _ _ _ h => h) (by rfl) (Or.inl ⟨by rfl, ?_⟩) hS1 ?_
  rotate_left
  · intro w' hSw
    (try dsimp only at hSw)
    go_simp
    all_goals with_reducible rfl
  try simp only [Act.put, List.setIfInBounds_toArray, List.set_cons_zero, List.set_cons_succ]
  refine AnyL.takeD (i := 33) (v := ?_) (some 92) rfl (by kernel_rfl) (by kernel_rfl) (by kernel_rfl) (by kernel_rfl) (fun _ _ _ h => h) (by rfl) (Or.inl ⟨by rfl, ?_⟩) hS1 ?_
  rotate_left
  · intro w' hSw
    (try dsimp only at hSw)
    go_simp
    all_goals with_reducible rfl
  try simp only [Act.put, List.setIfInBounds_toArray, List.set_cons_zero, List.set_cons_succ]
  refine AnyL.takeD (i := 34) (v := ?_) (some 93) rfl (by kernel_rfl) (by kernel_rfl) (by kernel_rfl) (by kernel_rfl) (fun _ _ _ h => h) (by rfl) (Or.inl ⟨by kernel_rfl, ?_⟩) hS1 ?_
  rotate_left
  · intro w' hSw
    (try dsimp only at hSw)
    go_simp
    all_goals with_reducible rfl
  try simp only [Act.put, List.setIfInBounds_toArray, List.set_cons_zero, List.set_cons_succ]
  refine AnyL.takeD (i := 35) (v := ?_) (some 94) rfl (by kernel_rfl) (by kernel_rfl) (by kernel_rfl) (by kernel_rfl) (fun _ _ _ h => h) (by rfl) (Or.inl ⟨by kernel_rfl, ?_⟩) hS1 ?_
  rotate_left
  · intro w' hSw
    (try dsimp only at hSw)
    go_simp
    all_goals with_reducible rfl
  try simp only [Act.put, List.setIfInBounds_toArray, List.set_cons_zero, List.set_cons_succ]
  refine AnyL.takeD (i := 36) (v := ?_) (some 95) rfl (by kernel_rfl) (by kernel_rfl) (by kernel_rfl) (by kernel_rfl) (fun _ _ _ h => h) (by rfl) (Or.inl ⟨by kernel_rfl, ?_⟩) hS1 ?_
  rotate_left
  · intro w' hSw
    (try dsimp only at hSw)
    go_simp
    all_goals with_reducible rfl
  try simp only [Act.put, List.setIfInBounds_toArray, List.set_cons_zero, List.set_cons_succ]
  refine AnyL.takeD (i := 37) (v := ?_) (some 96) rfl (by kernel_rfl) (by kernel_rfl) (by kernel_rfl) (by kernel_rfl) (fun _ _ _ h => h) (by rfl) (Or.inl ⟨by kernel_rfl, ?_⟩) hS1 ?_
  rotate_left
  · intro w' hSw
    (try dsimp only at hSw)
    go_simp
    all_goals with_reducible rfl
  try simp only [Act.put, List.setIfInBounds_toArray, List.set_cons_zero, List.set_cons_succ]
  refine AnyL.takeD (i := 38) (v := ?_) (some 97) rfl (by kernel_rfl) (by kernel_rfl) (by kernel_rfl) (by kernel_rfl) (fun _ _ _ h => h) (by rfl) (Or.inl ⟨by kernel_rfl, ?_⟩) hS1 ?_
  rotate_left
  · intro w' hSw
    (try dsimp only at hSw)
    go_simp
    all_goals with_reducible rfl
  try simp only [Act.put, List.setIfInBounds_toArray, List.set_cons_zero, List.set_cons_succ]
  refine AnyL.takeD (i := 39) (v := ?_) (some 98) rfl (by kernel_rfl) (by kernel_rfl) (by kernel_rfl) (by kernel_rfl) (fun _ _ _ h => h) (by rfl) (Or.inl ⟨by kernel_rfl, ?_⟩) hS1 ?_
  rotate_left
  · intro w' hSw
    (try dsimp only at hSw)
    have hq := run_neq_map_nil (P := Try.prog) w' 34 9 22 (some r2) Try.underlying34
    go_simp
    all_goals with_reducible rfl
  try simp only [Act.put, List.setIfInBounds_toArray, List.set_cons_zero, List.set_cons_succ]
  refine AnyL.takeD (i := 40) (v := ?_) (some 99) rfl (by kernel_rfl) (by kernel_rfl) (by kernel_rfl) (by kernel_rfl) (fun _ _ _ h => h) (by rfl) (Or.inl ⟨by rfl, ?_⟩) hS1 ?_
  rotate_left
  · intro w' hSw
    (try dsimp only at hSw)
    go_simp
    all_goals with_reducible rfl
  try simp only [Act.put, List.setIfInBounds_toArray, List.set_cons_zero, List.set_cons_succ]
  refine AnyL.takeD (i := 41) (v := ?_) (some 100) rfl (by kernel_rfl) (by kernel_rfl) (by kernel_rfl) (by kernel_rfl) (fun _ _ _ h => h) (by rfl) (Or.inl ⟨by rfl, ?_⟩) hS1 ?_
  rotate_left
  · intro w' hSw
    (try dsimp only at hSw)
    go_simp
    all_goals with_reducible rfl
  try simp only [Act.put, List.setIfInBounds_toArray, List.set_cons_zero, List.set_cons_succ]
  refine AnyL.takeD (i := 42) (v := ?_) (some 101) rfl (by kernel_rfl) (by kernel_rfl) (by kernel_rfl) (by kernel_rfl) (fun _ _ _ h => h) (by rfl) (Or.inl ⟨by kernel_rfl, ?_⟩) hS1 ?_
  rotate_left
  · intro w' hSw
    (try dsimp only at hSw)
    go_simp
    all_goals with_reducible rfl
  try simp only [Act.put, List.setIfInBounds_toArray, List.set_cons_zero, List.set_cons_succ]
  refine AnyL.takeD (i := 43) (v := ?_) (some 102) rfl (by kernel_rfl) (by kernel_rfl) (by kernel_rfl) (by kernel_rfl) (fun _ _ _ h => h) (by rfl) (Or.inl ⟨by kernel_rfl, ?_⟩) hS1 ?_
  rotate_left
  · intro w' hSw
    (try dsimp only at hSw)
    go_simp
    all_goals with_reducible rfl
  try simp only [Act.put, List.setIfInBounds_toArray, List.set_cons_zero, List.set_cons_succ]
  refine AnyL.takeD (i := 44) (v := ?_) (some 103) rfl (by kernel_rfl) (by kernel_rfl) (by kernel_rfl) (by kernel_rfl) (fun _ _ _ h => h) (by rfl) (Or.inl ⟨by kernel_rfl, ?_⟩) hS1 ?_
  rotate_left
  · intro w' hSw
    (try dsimp only at hSw)
    go_simp
    all_goals with_reducible rfl
  try simp only [Act.put, List.setIfInBounds_toArray, List.set_cons_zero, List.set_cons_succ]
  refine AnyL.takeD (i := 45) (v := ?_) (some 104) rfl (by kernel_rfl) (by kernel_rfl) (by kernel_rfl) (by kernel_rfl) (fun _ _ _ h => h) (by rfl) (Or.inl ⟨by kernel_rfl, ?_⟩) hS1 ?_
  rotate_left
  · intro w' hSw
    (try dsimp only at hSw)
    go_simp
    all_goals with_reducible rfl
  try simp only [Act.put, List.setIfInBounds_toArray, List.set_cons_zero, List.set_cons_succ]
  refine AnyL.takeD (i := 46) (v := ?_) (some 105) rfl (by kernel_rfl) (by kernel_rfl) (by kernel_rfl) (by kernel_rfl) (fun _ _ _ h => h) (by rfl) (Or.inl ⟨by kernel_rfl, ?_⟩) hS1 ?_
  rotate_left
  · intro w' hSw
    (try dsimp only at hSw)
    go_simp
    all_goals with_reducible rfl
  try simp only [Act.put, List.setIfInBounds_toArray, List.set_cons_zero, List.set_cons_succ]
  refine AnyL.takeD (i := 47) (v := ?_) (some 106) rfl (by kernel_rfl) (by kernel_rfl) (by kernel_rfl) (by kernel_rfl) (fun _ _ _ h => h) (by rfl) (Or.inl ⟨by kernel_rfl, ?_⟩) hS1 ?_
  rotate_left
  · intro w' hSw
    (try dsimp only at hSw)
    have hl2 := len34 w' r2 hSw.2.2.2.2.2.2
    go_simp
    all_goals with_reducible rfl
  try simp only [Act.put, List.setIfInBounds_toArray, List.set_cons_zero, List.set_cons_succ]
  refine AnyL.takeD (i := 48) (v := ?_) (some 107) rfl (by kernel_rfl) (by kernel_rfl) (by kernel_rfl) (by kernel_rfl) (fun _ _ _ h => h) (by rfl) (Or.inl ⟨by kernel_rfl, ?_⟩) hS1 ?_
  rotate_left
  · intro w' hSw
    (try dsimp only at hSw)
    go_simp
    all_goals with_reducible rfl
  try simp only [Act.put, List.setIfInBounds_toArray, List.set_cons_zero, List.set_cons_succ]
  refine AnyL.takeD (i := 49) (v := ?_) (some 108) rfl (by kernel_rfl) (by kernel_rfl) (by kernel_rfl) (by kernel_rfl) (fun _ _ _ h => h) (by rfl) (Or.inl ⟨by rfl, ?_⟩) hS1 ?_
  rotate_left
  · intro w' hSw
    (try dsimp only at hSw)
    go_simp
    all_goals with_reducible rfl
  try simp only [Act.put, List.setIfInBounds_toArray, List.set_cons_zero, List.set_cons_succ]
  refine AnyL.takeD (i := 50) (v := ?_) (some 10) rfl (by kernel_rfl) (by kernel_rfl) (by kernel_rfl) (by kernel_rfl) (fun _ _ _ h => h) (by rfl) (Or.inl ⟨by rfl, ?_⟩) hS1 ?_
  rotate_left
  · intro w' hSw
    (try dsimp only at hSw)
    go_simp
    all_goals with_reducible rfl
  try simp only [Act.put, List.setIfInBounds_toArray, List.set_cons_zero, List.set_cons_succ]
  refine AnyL.done (by kernel_rfl) ?_ _
  clear hS hS1
  go_wp2
  go_ret
  exact ⟨rfl, grown_trans G15.out (grown_trans (grown_drew (World.grownBy.refl w15 _)) g16)⟩

end Go.Proofs.Qxb6601448a
