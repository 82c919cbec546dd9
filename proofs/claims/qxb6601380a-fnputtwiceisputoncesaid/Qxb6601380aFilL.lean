/-
  fill (65), where the child before has an entry to spare.
-/
import Derived.Test.Qxb6601380aOpn
import Derived.Deep.DeepCutAuto
import Derived.BigQuiet
import Derived.Deep.RegionHeld
import Derived.Test.Qxb6601380aLst
namespace Go.Proofs.Qxb6601380a
open Go.RowKit

set_option linter.unusedSimpArgs false in
set_option maxHeartbeats 8000000 in
set_option maxRecDepth 100000 in
theorem fill_left (w0 : World) (bs0 : List Nat) (w : World) (p ve vc es ks : _) (lp le lc les : _) (LK : List Nat) (o : Option Nat) (cp ce cc ces cks : _) (j : Nat) (ls : ByteArray) (lr : Int)
    (g : Grp w0 bs0 w [(⟨p, ve, vc, es⟩, ks), (⟨lp, le, lc, les ++ [(ls, lr)]⟩, LK ++ o.toList), (⟨cp, ce, cc, ces⟩, cks)])
    (hi : ks[j]? = some lp) (hi1 : ks[j + 1]? = some cp) (ms mr : _) (hm : es[j]? = some (ms, mr)) (hes : es.length ≤ 100) (hks : ks.length ≤ 100)
    (hl0 : 15 ≤ les.length) (hl1 : les.length ≤ 31) (hc1 : ces.length ≤ 31) (hl2 : LK.length ≤ 100) (hc2 : cks.length ≤ 100) (ho : o = none → LK = []) (ho2 : o ≠ none → LK ≠ []) :
    Calls Try.prog 65 #[ptr p, .int .i64 ((j : Int) + 1)] w fun e w' => e = .returned (.int .i64 ((j : Int) + 1)) ∧ ∃ ve' le' lc' ce' cc',
      Grp w0 bs0 w' [(⟨p, ve', vc, es.set j (ls, lr)⟩, ks), (⟨lp, le', lc', les⟩, LK), (⟨cp, ce', cc', (ms, mr) :: ces⟩, o.toList ++ cks)] := by
  have hil := (List.getElem?_eq_some_iff.1 hi1).1
  have hie := (List.getElem?_eq_some_iff.1 hm).1
  have n1 := g.n1; have n2 := g.n2; have n3 := g.n3
  simp only at n1 n2 n3
  obtain ⟨cg, ccap, crest, hvc, hk1, hk2, hk3, hcB⟩ := n1.kidsOpen (by omega)
  obtain ⟨eg, ecap, erest, hve, he1, he2, he3, heB⟩ := n1.entsOpen (by simp only; omega)
  obtain ⟨lg, lcap, lrest, hle, hl3, hl4, hl5, hlB⟩ := n2.entsOpen (by simp)
  simp only at hk1 hk2 hk3 hcB hvc hve he1 he2 he3 heB hle hl3 hl4 hl5 hlB
  subst hvc hve
  rw [List.length_append] at hle hl3
  simp only [List.length_cons, List.length_nil, Nat.zero_add] at hle hl3
  subst hle
  have a1 := n1.c0
  have a2 := n1.c1
  have a3 := n2.c0
  have a5 := kid_cell hcB hi
  have a6 := kid_cell hcB hi1
  simp only at a1 a2 a3
  unfold ptr at a5 a6
  have b1 : (j : Int) < (ks.length : Int) := by omega
  have b2 : (j : Int) + 1 < (ks.length : Int) := by omega
  have b3 : j ≤ 4000000000 := by omega
  have b6 : (j : Int) < (es.length : Int) := by omega
  have b7 : les.length ≤ 4000000000 := by omega
  have b4 : (0 : Int) < (j : Int) + 1 := by omega
  have b5 : (15 : Int) < (les.length : Int) + 1 := by omega
  unfold ptr
  go_enter Try.func65, Try.ntmps65
  obtain ⟨a7, a8⟩ := ent_cell heB hm
  have a9 := n3.c0
  have l1 : p < w.heap.size := n1.node.lt
  have l2 : lp < w.heap.size := n2.node.lt
  have l3 : cp < w.heap.size := n3.node.lt
  simp only at a9
  have hW : w.grownBy (w.alloc (Obj.cells #[Value.string ms, Value.int IntKind.u32 mr] 36)).drew none := grown_drew (World.grownBy_alloc _ _ _)
  have hy : BlockAt (w.alloc (Obj.cells #[Value.string ms, Value.int IntKind.u32 mr] 36)).drew w.heap.size 36 [.string ms, .int .u32 mr] := blockAt_new w 36 [.string ms, .int .u32 mr]
  have gW := g.grown hW
  have m3 := gW.n3
  simp only at m3
  have hown := gW.ownAt (A := [(⟨p, .slice (some ⟨eg, 0, none⟩) es.length ecap, .slice (some ⟨cg, 0, none⟩) ks.length ccap, es⟩, ks), (⟨lp, .slice (some ⟨lg, 0, none⟩) (les.length + 1) lcap, lc, les ++ [(ls, lr)]⟩, LK ++ o.toList)]) (B := [])
  have hC := insE_node (w.alloc (Obj.cells #[Value.string ms, Value.int IntKind.u32 mr] 36)).drew cp ce cc ces cks 0 w.heap.size ms mr m3 hown (by omega) (by omega) hy (fun h => Nat.lt_irrefl _ (n3.lt _ h))
  rw [show ((0 : Nat) : Int) = 0 from rfl, List.take_zero, List.drop_zero, List.nil_append] at hC
  have HC := hidC hC
  have HG : Hid (Grp w0 bs0 (w.alloc (Obj.cells #[Value.string ms, Value.int IntKind.u32 mr] 36)).drew [(⟨p, .slice (some ⟨eg, 0, none⟩) es.length ecap, .slice (some ⟨cg, 0, none⟩) ks.length ccap, es⟩, ks), (⟨lp, .slice (some ⟨lg, 0, none⟩) (les.length + 1) lcap, lc, les ++ [(ls, lr)]⟩, LK ++ o.toList), (⟨cp, ce, cc, ces⟩, cks)]) := gW
  have l4 : eg < w.heap.size := heB.lt
  have hback : ∀ (v : Value) (w1 : World), w1.cell? ⟨cp, 0, none⟩ = some ce → Grp (w.alloc (Obj.cells #[Value.string ms, Value.int IntKind.u32 mr] 36)).drew (owns [(⟨cp, ce, cc, ces⟩, cks)]) (w1.setCell ⟨cp, 0, none⟩ v) [(⟨cp, v, cc, (ms, mr) :: ces⟩, cks)] → (fun w' => w'.cell? ⟨cp, 0, none⟩ = some ce ∧ w'.cell? ⟨p, 0, none⟩ = some (.slice (some ⟨eg, 0, none⟩) es.length ecap) ∧ w'.cell? ⟨eg, j * 2, none⟩ = some (.string ms) ∧ w'.cell? ⟨eg, j * 2 + 1, none⟩ = some (.int .u32 mr)) w1 := by
    intro v w1 h1 h2
    have m1 := gW.n1
    simp only at m1
    have hap := own_apart (A := []) (B := [(⟨lp, .slice (some ⟨lg, 0, none⟩) (les.length + 1) lcap, lc, les ++ [(ls, lr)]⟩, LK ++ o.toList)]) (C := []) gW
    obtain ⟨r2, _, hB2⟩ := own_at m1.ents
    have q1 : w1.heap[p]? = _ := grp_back h2 (b := p) (by rw [owns_one]; exact hap p (by simp [Hd.own])) m1.node.lt
    have q2 : w1.heap[eg]? = _ := grp_back h2 (b := eg) (by rw [owns_one]; exact hap eg (by simp [Hd.own, Value.ownBlock])) hB2.lt
    refine ⟨h1, ?_, ent_cell (hB2.same q2) hm⟩
    rw [(m1.node.same q1).cell]; rfl
  have bw : IntKind.i64.wrap (j : Int) = (j : Int) := by rw [IntKind.wrap_i64]; omega
  have bw2 : IntKind.i64.wrap (les.length : Int) = (les.length : Int) := by rw [IntKind.wrap_i64]; omega
  have b10 : (les.length : Int) < (les.length : Int) + 1 := by omega
  clear hC hown m3 gW hy hW n1 n2 n3 hlB hl5 lrest heB he3 erest hcB hk3 crest g
  go_upto_region 6 with fail
  refine region_last (fun w' => w'.cell? ⟨cp, 0, none⟩ = some ce ∧ w'.cell? ⟨p, 0, none⟩ = some (.slice (some ⟨eg, 0, none⟩) es.length ecap) ∧ w'.cell? ⟨eg, j * 2, none⟩ = some (.string ms) ∧ w'.cell? ⟨eg, j * 2 + 1, none⟩ = some (.int .u32 mr)) 17 (by kernel_rfl) ?_
  have hS : ((fun w' => w'.cell? ⟨cp, 0, none⟩ = some ce ∧ w'.cell? ⟨p, 0, none⟩ = some (.slice (some ⟨eg, 0, none⟩) es.length ecap) ∧ w'.cell? ⟨eg, j * 2, none⟩ = some (.string ms) ∧ w'.cell? ⟨eg, j * 2 + 1, none⟩ = some (.int .u32 mr)) : World → Prop) w.drew := ⟨a9, a1, a7, a8⟩
  refine AnyL.take (i := 0) (v := ?_) rfl (by kernel_rfl) (by kernel_rfl) (by kernel_rfl) 0 (by kernel_rfl) (by kernel_rfl) (by kernel_rfl) (fun _ _ _ h => h) (Or.inl ⟨by rfl, ?_⟩) hS ?_
  rotate_left
  · intro w' hSw
    (try dsimp only at hSw)
    go_simp
    all_goals with_reducible rfl
  try simp only [Act.put, List.setIfInBounds_toArray, List.set_cons_zero, List.set_cons_succ]
  refine AnyL.take (i := 1) (v := ?_) rfl (by kernel_rfl) (by kernel_rfl) (by kernel_rfl) 1 (by kernel_rfl) (by kernel_rfl) (by kernel_rfl) (fun _ _ _ h => h) (Or.inl ⟨by rfl, ?_⟩) hS ?_
  rotate_left
  · intro w' hSw
    (try dsimp only at hSw)
    go_simp
    all_goals with_reducible rfl
  try simp only [Act.put, List.setIfInBounds_toArray, List.set_cons_zero, List.set_cons_succ]
  refine AnyL.take (i := 2) (v := ?_) rfl (by kernel_rfl) (by kernel_rfl) (by kernel_rfl) 2 (by kernel_rfl) (by kernel_rfl) (by kernel_rfl) (fun _ _ _ h => h) (Or.inl ⟨by rfl, ?_⟩) hS ?_
  rotate_left
  · intro w' hSw
    (try dsimp only at hSw)
    go_simp
    all_goals with_reducible rfl
  try simp only [Act.put, List.setIfInBounds_toArray, List.set_cons_zero, List.set_cons_succ]
  refine AnyL.take (i := 3) (v := ?_) rfl (by kernel_rfl) (by kernel_rfl) (by kernel_rfl) 3 (by kernel_rfl) (by kernel_rfl) (by kernel_rfl) (fun _ _ _ h => h) (Or.inl ⟨by rfl, ?_⟩) hS ?_
  rotate_left
  · intro w' hSw
    (try dsimp only at hSw)
    go_simp
    all_goals with_reducible rfl
  try simp only [Act.put, List.setIfInBounds_toArray, List.set_cons_zero, List.set_cons_succ]
  refine AnyL.take (i := 4) (v := ?_) rfl (by kernel_rfl) (by kernel_rfl) (by kernel_rfl) 4 (by kernel_rfl) (by kernel_rfl) (by kernel_rfl) (fun _ _ _ h => h) (Or.inl ⟨by rfl, ?_⟩) hS ?_
  rotate_left
  · intro w' hSw
    (try dsimp only at hSw)
    go_simp
    all_goals with_reducible rfl
  try simp only [Act.put, List.setIfInBounds_toArray, List.set_cons_zero, List.set_cons_succ]
  refine AnyL.take (i := 5) (v := ?_) rfl (by kernel_rfl) (by kernel_rfl) (by kernel_rfl) 5 (by kernel_rfl) (by kernel_rfl) (by kernel_rfl) (fun _ _ _ h => h) (Or.inl ⟨by rfl, ?_⟩) hS ?_
  rotate_left
  · intro w' hSw
    (try dsimp only at hSw)
    go_simp
    all_goals with_reducible rfl
  try simp only [Act.put, List.setIfInBounds_toArray, List.set_cons_zero, List.set_cons_succ]
  refine AnyL.take (i := 6) (v := ?_) rfl (by kernel_rfl) (by kernel_rfl) (by kernel_rfl) 6 (by kernel_rfl) (by kernel_rfl) (by kernel_rfl) (fun _ _ _ h => h) (Or.inl ⟨by rfl, ?_⟩) hS ?_
  rotate_left
  · intro w' hSw
    (try dsimp only at hSw)
    go_simp
    all_goals with_reducible rfl
  try simp only [Act.put, List.setIfInBounds_toArray, List.set_cons_zero, List.set_cons_succ]
  refine AnyL.take (i := 7) (v := ?_) rfl (by kernel_rfl) (by kernel_rfl) (by kernel_rfl) 7 (by kernel_rfl) (by kernel_rfl) (by kernel_rfl) (fun _ _ _ h => h) (Or.inl ⟨by rfl, ?_⟩) hS ?_
  rotate_left
  · intro w' hSw
    (try dsimp only at hSw)
    go_simp
    all_goals with_reducible rfl
  try simp only [Act.put, List.setIfInBounds_toArray, List.set_cons_zero, List.set_cons_succ]
  refine AnyL.take (i := 8) (v := ?_) rfl (by kernel_rfl) (by kernel_rfl) (by kernel_rfl) 8 (by kernel_rfl) (by kernel_rfl) (by kernel_rfl) (fun _ _ _ h => h) (Or.inl ⟨by rfl, ?_⟩) hS ?_
  rotate_left
  · intro w' hSw
    (try dsimp only at hSw)
    go_simp
    all_goals with_reducible rfl
  try simp only [Act.put, List.setIfInBounds_toArray, List.set_cons_zero, List.set_cons_succ]
  refine AnyL.take (i := 9) (v := ?_) rfl (by kernel_rfl) (by kernel_rfl) (by kernel_rfl) 9 (by kernel_rfl) (by kernel_rfl) (by kernel_rfl) (fun _ _ _ h => h) (Or.inl ⟨by rfl, ?_⟩) hS ?_
  rotate_left
  · intro w' hSw
    (try dsimp only at hSw)
    go_simp
    all_goals with_reducible rfl
  try simp only [Act.put, List.setIfInBounds_toArray, List.set_cons_zero, List.set_cons_succ]
  refine AnyL.take (i := 10) (v := ?_) rfl (by kernel_rfl) (by kernel_rfl) (by kernel_rfl) 10 (by kernel_rfl) (by kernel_rfl) (by kernel_rfl) (fun _ _ _ h => h) (Or.inl ⟨by rfl, ?_⟩) hS ?_
  rotate_left
  · intro w' hSw
    (try dsimp only at hSw)
    go_simp
    all_goals with_reducible rfl
  try simp only [Act.put, List.setIfInBounds_toArray, List.set_cons_zero, List.set_cons_succ]
  refine AnyL.take (i := 11) (v := ?_) rfl (by kernel_rfl) (by kernel_rfl) (by kernel_rfl) 11 (by kernel_rfl) (by kernel_rfl) (by kernel_rfl) (fun _ _ _ h => h) (Or.inl ⟨by rfl, ?_⟩) hS ?_
  rotate_left
  · intro w' hSw
    (try dsimp only at hSw)
    go_simp
    all_goals with_reducible rfl
  try simp only [Act.put, List.setIfInBounds_toArray, List.set_cons_zero, List.set_cons_succ]
  refine AnyL.take (i := 12) (v := ?_) rfl (by kernel_rfl) (by kernel_rfl) (by kernel_rfl) 12 (by kernel_rfl) (by kernel_rfl) (by kernel_rfl) (fun _ _ _ h => h) (Or.inl ⟨by rfl, ?_⟩) hS ?_
  rotate_left
  · intro w' hSw
    (try dsimp only at hSw)
    go_simp
    all_goals with_reducible rfl
  try simp only [Act.put, List.setIfInBounds_toArray, List.set_cons_zero, List.set_cons_succ]
  refine AnyL.one (i := 13) rfl (by kernel_rfl) (fun K hK => ?_)
  go_simp
  refine hK.out _ _ (Or.inr (by (try dsimp only); go_keep)) ?_
  clear hK K
  try simp only [Act.put, List.setIfInBounds_toArray, List.set_cons_zero, List.set_cons_succ]
  refine AnyL.one (i := 14) rfl (by kernel_rfl) (fun K hK => ?_)
  go_simp
  go_wp2_with (go_at_call 61; refine HC.out.mono ?_; rintro e1 w1 ⟨g1, x1, c1, rfl, c3, f3, kk⟩)
  refine hK.out _ _ (Or.inr (hback _ _ c3 kk)) ?_
  clear hK K
  have hS2 : ((fun w' => w'.cell? ⟨cp, 0, none⟩ = some ce ∧ w'.cell? ⟨p, 0, none⟩ = some (.slice (some ⟨eg, 0, none⟩) es.length ecap) ∧ w'.cell? ⟨eg, j * 2, none⟩ = some (.string ms) ∧ w'.cell? ⟨eg, j * 2 + 1, none⟩ = some (.int .u32 mr)) : World → Prop) w1 := (hback _ _ c3 kk)
  try simp only [Act.put, List.setIfInBounds_toArray, List.set_cons_zero, List.set_cons_succ]
  refine AnyL.take (i := 15) (v := ?_) rfl (by kernel_rfl) (by kernel_rfl) (by kernel_rfl) 16 (by kernel_rfl) (by kernel_rfl) (by kernel_rfl) (fun _ _ _ h => h) (Or.inl ⟨by rfl, ?_⟩) hS2 ?_
  rotate_left
  · intro w' hSw
    (try dsimp only at hSw)
    go_simp
    all_goals with_reducible rfl
  try simp only [Act.put, List.setIfInBounds_toArray, List.set_cons_zero, List.set_cons_succ]
  refine AnyL.take (i := 16) (v := ?_) rfl (by kernel_rfl) (by kernel_rfl) (by kernel_rfl) 16 (by kernel_rfl) (by kernel_rfl) (by kernel_rfl) (fun _ _ _ h => h) (Or.inl ⟨by rfl, ?_⟩) hS2 ?_
  rotate_left
  · intro w' hSw
    (try dsimp only at hSw)
    go_simp
    all_goals with_reducible rfl
  try simp only [Act.put, List.setIfInBounds_toArray, List.set_cons_zero, List.set_cons_succ]
  refine AnyL.one (i := 17) rfl (by kernel_rfl) (fun K hK => ?_)
  go_simp
  refine hK.out _ _ (Or.inl rfl) ?_
  clear hK K hS hS2
  refine AnyL.done (by kernel_rfl) ?_ _
  clear a1 a2 a3 a5 a6 a7 a8 a9 l1 l2 l3 l4 HC hback c3 f3
  obtain ⟨wc, hwc⟩ : ∃ wc, wc = w1.setCell ⟨cp, 0, none⟩ (.slice (some ⟨g1, 0, none⟩) x1 c1) := ⟨_, rfl⟩
  rw [← hwc] at kk ⊢
  have gg : Grp w0 bs0 wc [(⟨p, .slice (some ⟨eg, 0, none⟩) es.length ecap, .slice (some ⟨cg, 0, none⟩) ks.length ccap, es⟩, ks), (⟨lp, .slice (some ⟨lg, 0, none⟩) (les.length + 1) lcap, lc, les ++ [(ls, lr)]⟩, LK ++ o.toList), (⟨cp, .slice (some ⟨g1, 0, none⟩) x1 c1, cc, (ms, mr) :: ces⟩, cks)] := Grp.frame (A := [(⟨p, .slice (some ⟨eg, 0, none⟩) es.length ecap, .slice (some ⟨cg, 0, none⟩) ks.length ccap, es⟩, ks), (⟨lp, .slice (some ⟨lg, 0, none⟩) (les.length + 1) lcap, lc, les ++ [(ls, lr)]⟩, LK ++ o.toList)]) (B := []) HG.out kk
  clear HG kk hwc w1
  have n1 := gg.n1; have n2 := gg.n2
  simp only at n1 n2
  have a1 := n1.c0; have a3 := n2.c0
  simp only at a1 a3
  obtain ⟨erest, he3, heB⟩ := own_at n1.ents
  obtain ⟨lrest, hl5, hlB⟩ := own_at n2.ents
  obtain ⟨a7, a8⟩ := ent_cell hlB (i := les.length) (e := (ls, lr)) (by simp)
  obtain ⟨a5, a6⟩ := ent_cell heB hm
  have f1 := heB.frozen (j * 2); have f2 := heB.frozen (j * 2 + 1)
  have HG : Hid (Grp w0 bs0 wc.drew [(⟨p, .slice (some ⟨eg, 0, none⟩) es.length ecap, .slice (some ⟨cg, 0, none⟩) ks.length ccap, es⟩, ks), (⟨lp, .slice (some ⟨lg, 0, none⟩) (les.length + 1) lcap, lc, les ++ [(ls, lr)]⟩, LK ++ o.toList), (⟨cp, .slice (some ⟨g1, 0, none⟩) x1 c1, cc, (ms, mr) :: ces⟩, cks)]) := gg.grown (grown_drew (World.grownBy.refl wc _))
  have hown := gg.ownAt (A := []) (B := [(⟨lp, .slice (some ⟨lg, 0, none⟩) (les.length + 1) lcap, lc, les ++ [(ls, lr)]⟩, LK ++ o.toList), (⟨cp, .slice (some ⟨g1, 0, none⟩) x1 c1, cc, (ms, mr) :: ces⟩, cks)])
  have HK : Hid _ := setE_node wc.drew p eg ecap _ es ks j ls lr (n1.same fun _ _ => rfl) hown hie
  clear hown n1 n2 hlB hl5 lrest he3 heB erest gg
  go_upto_region 7 with fail
  refine region_last (fun w' => w'.cell? ⟨p, 0, none⟩ = some (.slice (some ⟨eg, 0, none⟩) es.length ecap) ∧ w'.cell? ⟨lp, 0, none⟩ = some (.slice (some ⟨lg, 0, none⟩) (les.length + 1) lcap) ∧ w'.cell? ⟨lg, les.length * 2, none⟩ = some (.string ls) ∧ w'.cell? ⟨lg, les.length * 2 + 1, none⟩ = some (.int .u32 lr)) 19 (by kernel_rfl) ?_
  have hS : ((fun w' => w'.cell? ⟨p, 0, none⟩ = some (.slice (some ⟨eg, 0, none⟩) es.length ecap) ∧ w'.cell? ⟨lp, 0, none⟩ = some (.slice (some ⟨lg, 0, none⟩) (les.length + 1) lcap) ∧ w'.cell? ⟨lg, les.length * 2, none⟩ = some (.string ls) ∧ w'.cell? ⟨lg, les.length * 2 + 1, none⟩ = some (.int .u32 lr)) : World → Prop) wc.drew := ⟨a1, a3, a7, a8⟩
  refine AnyL.take (i := 0) (v := ?_) rfl (by kernel_rfl) (by kernel_rfl) (by kernel_rfl) 0 (by kernel_rfl) (by kernel_rfl) (by kernel_rfl) (fun _ _ _ h => h) (Or.inl ⟨by rfl, ?_⟩) hS ?_
  rotate_left
  · intro w' hSw
    (try dsimp only at hSw)
    go_simp
    all_goals with_reducible rfl
  try simp only [Act.put, List.setIfInBounds_toArray, List.set_cons_zero, List.set_cons_succ]
  refine AnyL.take (i := 1) (v := ?_) rfl (by kernel_rfl) (by kernel_rfl) (by kernel_rfl) 1 (by kernel_rfl) (by kernel_rfl) (by kernel_rfl) (fun _ _ _ h => h) (Or.inl ⟨by rfl, ?_⟩) hS ?_
  rotate_left
  · intro w' hSw
    (try dsimp only at hSw)
    go_simp
    all_goals with_reducible rfl
  try simp only [Act.put, List.setIfInBounds_toArray, List.set_cons_zero, List.set_cons_succ]
  refine AnyL.take (i := 2) (v := ?_) rfl (by kernel_rfl) (by kernel_rfl) (by kernel_rfl) 2 (by kernel_rfl) (by kernel_rfl) (by kernel_rfl) (fun _ _ _ h => h) (Or.inl ⟨by rfl, ?_⟩) hS ?_
  rotate_left
  · intro w' hSw
    (try dsimp only at hSw)
    go_simp
    all_goals with_reducible rfl
  try simp only [Act.put, List.setIfInBounds_toArray, List.set_cons_zero, List.set_cons_succ]
  refine AnyL.take (i := 3) (v := ?_) rfl (by kernel_rfl) (by kernel_rfl) (by kernel_rfl) 3 (by kernel_rfl) (by kernel_rfl) (by kernel_rfl) (fun _ _ _ h => h) (Or.inl ⟨by rfl, ?_⟩) hS ?_
  rotate_left
  · intro w' hSw
    (try dsimp only at hSw)
    go_simp
    all_goals with_reducible rfl
  try simp only [Act.put, List.setIfInBounds_toArray, List.set_cons_zero, List.set_cons_succ]
  refine AnyL.take (i := 4) (v := ?_) rfl (by kernel_rfl) (by kernel_rfl) (by kernel_rfl) 4 (by kernel_rfl) (by kernel_rfl) (by kernel_rfl) (fun _ _ _ h => h) (Or.inl ⟨by rfl, ?_⟩) hS ?_
  rotate_left
  · intro w' hSw
    (try dsimp only at hSw)
    go_simp
    all_goals with_reducible rfl
  try simp only [Act.put, List.setIfInBounds_toArray, List.set_cons_zero, List.set_cons_succ]
  refine AnyL.take (i := 5) (v := ?_) rfl (by kernel_rfl) (by kernel_rfl) (by kernel_rfl) 5 (by kernel_rfl) (by kernel_rfl) (by kernel_rfl) (fun _ _ _ h => h) (Or.inl ⟨by rfl, ?_⟩) hS ?_
  rotate_left
  · intro w' hSw
    (try dsimp only at hSw)
    go_simp
    all_goals with_reducible rfl
  try simp only [Act.put, List.setIfInBounds_toArray, List.set_cons_zero, List.set_cons_succ]
  refine AnyL.take (i := 6) (v := ?_) rfl (by kernel_rfl) (by kernel_rfl) (by kernel_rfl) 6 (by kernel_rfl) (by kernel_rfl) (by kernel_rfl) (fun _ _ _ h => h) (Or.inl ⟨by rfl, ?_⟩) hS ?_
  rotate_left
  · intro w' hSw
    (try dsimp only at hSw)
    go_simp
    all_goals with_reducible rfl
  try simp only [Act.put, List.setIfInBounds_toArray, List.set_cons_zero, List.set_cons_succ]
  refine AnyL.take (i := 7) (v := ?_) rfl (by kernel_rfl) (by kernel_rfl) (by kernel_rfl) 7 (by kernel_rfl) (by kernel_rfl) (by kernel_rfl) (fun _ _ _ h => h) (Or.inl ⟨by rfl, ?_⟩) hS ?_
  rotate_left
  · intro w' hSw
    (try dsimp only at hSw)
    go_simp
    all_goals with_reducible rfl
  try simp only [Act.put, List.setIfInBounds_toArray, List.set_cons_zero, List.set_cons_succ]
  refine AnyL.take (i := 8) (v := ?_) rfl (by kernel_rfl) (by kernel_rfl) (by kernel_rfl) 8 (by kernel_rfl) (by kernel_rfl) (by kernel_rfl) (fun _ _ _ h => h) (Or.inl ⟨by rfl, ?_⟩) hS ?_
  rotate_left
  · intro w' hSw
    (try dsimp only at hSw)
    go_simp
    all_goals with_reducible rfl
  try simp only [Act.put, List.setIfInBounds_toArray, List.set_cons_zero, List.set_cons_succ]
  refine AnyL.take (i := 9) (v := ?_) rfl (by kernel_rfl) (by kernel_rfl) (by kernel_rfl) 9 (by kernel_rfl) (by kernel_rfl) (by kernel_rfl) (fun _ _ _ h => h) (Or.inl ⟨by rfl, ?_⟩) hS ?_
  rotate_left
  · intro w' hSw
    (try dsimp only at hSw)
    go_simp
    all_goals with_reducible rfl
  try simp only [Act.put, List.setIfInBounds_toArray, List.set_cons_zero, List.set_cons_succ]
  refine AnyL.take (i := 10) (v := ?_) rfl (by kernel_rfl) (by kernel_rfl) (by kernel_rfl) 10 (by kernel_rfl) (by kernel_rfl) (by kernel_rfl) (fun _ _ _ h => h) (Or.inl ⟨by rfl, ?_⟩) hS ?_
  rotate_left
  · intro w' hSw
    (try dsimp only at hSw)
    go_simp
    all_goals with_reducible rfl
  try simp only [Act.put, List.setIfInBounds_toArray, List.set_cons_zero, List.set_cons_succ]
  refine AnyL.take (i := 11) (v := ?_) rfl (by kernel_rfl) (by kernel_rfl) (by kernel_rfl) 11 (by kernel_rfl) (by kernel_rfl) (by kernel_rfl) (fun _ _ _ h => h) (Or.inl ⟨by rfl, ?_⟩) hS ?_
  rotate_left
  · intro w' hSw
    (try dsimp only at hSw)
    go_simp
    all_goals with_reducible rfl
  try simp only [Act.put, List.setIfInBounds_toArray, List.set_cons_zero, List.set_cons_succ]
  refine AnyL.take (i := 12) (v := ?_) rfl (by kernel_rfl) (by kernel_rfl) (by kernel_rfl) 12 (by kernel_rfl) (by kernel_rfl) (by kernel_rfl) (fun _ _ _ h => h) (Or.inl ⟨by rfl, ?_⟩) hS ?_
  rotate_left
  · intro w' hSw
    (try dsimp only at hSw)
    go_simp
    all_goals with_reducible rfl
  try simp only [Act.put, List.setIfInBounds_toArray, List.set_cons_zero, List.set_cons_succ]
  refine AnyL.take (i := 13) (v := ?_) rfl (by kernel_rfl) (by kernel_rfl) (by kernel_rfl) 13 (by kernel_rfl) (by kernel_rfl) (by kernel_rfl) (fun _ _ _ h => h) (Or.inl ⟨by rfl, ?_⟩) hS ?_
  rotate_left
  · intro w' hSw
    (try dsimp only at hSw)
    go_simp
    all_goals with_reducible rfl
  try simp only [Act.put, List.setIfInBounds_toArray, List.set_cons_zero, List.set_cons_succ]
  refine AnyL.take (i := 14) (v := ?_) rfl (by kernel_rfl) (by kernel_rfl) (by kernel_rfl) 14 (by kernel_rfl) (by kernel_rfl) (by kernel_rfl) (fun _ _ _ h => h) (Or.inl ⟨by rfl, ?_⟩) hS ?_
  rotate_left
  · intro w' hSw
    (try dsimp only at hSw)
    go_simp
    all_goals with_reducible rfl
  try simp only [Act.put, List.setIfInBounds_toArray, List.set_cons_zero, List.set_cons_succ]
  refine AnyL.take (i := 15) (v := ?_) rfl (by kernel_rfl) (by kernel_rfl) (by kernel_rfl) 15 (by kernel_rfl) (by kernel_rfl) (by kernel_rfl) (fun _ _ _ h => h) (Or.inl ⟨by rfl, ?_⟩) hS ?_
  rotate_left
  · intro w' hSw
    (try dsimp only at hSw)
    go_simp
    all_goals with_reducible rfl
  try simp only [Act.put, List.setIfInBounds_toArray, List.set_cons_zero, List.set_cons_succ]
  refine AnyL.take (i := 16) (v := ?_) rfl (by kernel_rfl) (by kernel_rfl) (by kernel_rfl) 16 (by kernel_rfl) (by kernel_rfl) (by kernel_rfl) (fun _ _ _ h => h) (Or.inl ⟨by rfl, ?_⟩) hS ?_
  rotate_left
  · intro w' hSw
    (try dsimp only at hSw)
    go_simp
    all_goals with_reducible rfl
  try simp only [Act.put, List.setIfInBounds_toArray, List.set_cons_zero, List.set_cons_succ]
  refine AnyL.take (i := 17) (v := ?_) rfl (by kernel_rfl) (by kernel_rfl) (by kernel_rfl) 17 (by kernel_rfl) (by kernel_rfl) (by kernel_rfl) (fun _ _ _ h => h) (Or.inl ⟨by rfl, ?_⟩) hS ?_
  rotate_left
  · intro w' hSw
    (try dsimp only at hSw)
    go_simp
    all_goals with_reducible rfl
  try simp only [Act.put, List.setIfInBounds_toArray, List.set_cons_zero, List.set_cons_succ]
  refine AnyL.take (i := 18) (v := ?_) rfl (by kernel_rfl) (by kernel_rfl) (by kernel_rfl) 18 (by kernel_rfl) (by kernel_rfl) (by kernel_rfl) (fun _ _ _ h => h) (Or.inl ⟨by rfl, ?_⟩) hS ?_
  rotate_left
  · intro w' hSw
    (try dsimp only at hSw)
    go_simp
    all_goals with_reducible rfl
  try simp only [Act.put, List.setIfInBounds_toArray, List.set_cons_zero, List.set_cons_succ]
  refine AnyL.one (i := 19) rfl (by kernel_rfl) (fun K hK => ?_)
  go_simp
  refine hK.out _ _ (Or.inl rfl) ?_
  clear hK K hS
  refine AnyL.done (by kernel_rfl) ?_ _
  clear a1 a3 a5 a6 a7 a8 f1 f2
  obtain ⟨wd, hwd⟩ : ∃ wd, wd = (wc.drew.setCell ⟨eg, j * 2, none⟩ (.string ls)).setCell ⟨eg, j * 2 + 1, none⟩ (.int .u32 lr) := ⟨_, rfl⟩
  rw [World.setCell_drew, World.setCell_drew] at hwd
  rw [← hwd]
  have hcut : Grp w0 bs0 wd [(⟨p, .slice (some ⟨eg, 0, none⟩) es.length ecap, .slice (some ⟨cg, 0, none⟩) ks.length ccap, es.set j (ls, lr)⟩, ks), (⟨lp, .slice (some ⟨lg, 0, none⟩) (les.length + 1) lcap, lc, les ++ [(ls, lr)]⟩, LK ++ o.toList), (⟨cp, .slice (some ⟨g1, 0, none⟩) x1 c1, cc, (ms, mr) :: ces⟩, cks)] := by
    rw [hwd, ← World.setCell_drew, ← World.setCell_drew]
    exact Grp.frame (A := []) (B := [(⟨lp, .slice (some ⟨lg, 0, none⟩) (les.length + 1) lcap, lc, les ++ [(ls, lr)]⟩, LK ++ o.toList), (⟨cp, .slice (some ⟨g1, 0, none⟩) x1 c1, cc, (ms, mr) :: ces⟩, cks)]) HG.out HK.out
  clear HG HK hwd wc
  have n2 := hcut.n2
  simp only at n2
  have a3 := n2.c0
  simp only at a3
  have l2 : lp < wd.heap.size := n2.node.lt
  have hown := hcut.ownAt (A := [(⟨p, .slice (some ⟨eg, 0, none⟩) es.length ecap, .slice (some ⟨cg, 0, none⟩) ks.length ccap, es.set j (ls, lr)⟩, ks)]) (B := [(⟨cp, .slice (some ⟨g1, 0, none⟩) x1 c1, cc, (ms, mr) :: ces⟩, cks)])
  have hC := delE_node wd.drew lp _ _ (les ++ [(ls, lr)]) (LK ++ o.toList) les.length (les.length + 1) (n2.same fun _ _ => rfl) hown (by omega) (by simp)
  rw [List.take_left, List.drop_eq_nil_of_le (by simp), List.append_nil] at hC
  rw [show ((les.length + 1 : Nat) : Int) = (les.length : Int) + 1 from rfl] at hC
  have HC := hidC hC
  have HG : Hid (Grp w0 bs0 wd.drew [(⟨p, .slice (some ⟨eg, 0, none⟩) es.length ecap, .slice (some ⟨cg, 0, none⟩) ks.length ccap, es.set j (ls, lr)⟩, ks), (⟨lp, .slice (some ⟨lg, 0, none⟩) (les.length + 1) lcap, lc, les ++ [(ls, lr)]⟩, LK ++ o.toList), (⟨cp, .slice (some ⟨g1, 0, none⟩) x1 c1, cc, (ms, mr) :: ces⟩, cks)]) := hcut.grown (grown_drew (World.grownBy.refl wd _))
  clear hC hown n2 hcut
  go_upto_region 8 with fail
  refine region_last (fun w' => w'.cell? ⟨lp, 0, none⟩ = some (.slice (some ⟨lg, 0, none⟩) (les.length + 1) lcap)) 19 (by kernel_rfl) ?_
  have hS : ((fun w' => w'.cell? ⟨lp, 0, none⟩ = some (.slice (some ⟨lg, 0, none⟩) (les.length + 1) lcap)) : World → Prop) wd.drew := a3
  refine AnyL.take (i := 0) (v := ?_) rfl (by kernel_rfl) (by kernel_rfl) (by kernel_rfl) 0 (by kernel_rfl) (by kernel_rfl) (by kernel_rfl) (fun _ _ _ h => h) (Or.inl ⟨by rfl, ?_⟩) hS ?_
  rotate_left
  · intro w' hSw
    (try dsimp only at hSw)
    go_simp
    all_goals with_reducible rfl
  try simp only [Act.put, List.setIfInBounds_toArray, List.set_cons_zero, List.set_cons_succ]
  refine AnyL.take (i := 1) (v := ?_) rfl (by kernel_rfl) (by kernel_rfl) (by kernel_rfl) 1 (by kernel_rfl) (by kernel_rfl) (by kernel_rfl) (fun _ _ _ h => h) (Or.inl ⟨by rfl, ?_⟩) hS ?_
  rotate_left
  · intro w' hSw
    (try dsimp only at hSw)
    go_simp
    all_goals with_reducible rfl
  try simp only [Act.put, List.setIfInBounds_toArray, List.set_cons_zero, List.set_cons_succ]
  refine AnyL.take (i := 2) (v := ?_) rfl (by kernel_rfl) (by kernel_rfl) (by kernel_rfl) 2 (by kernel_rfl) (by kernel_rfl) (by kernel_rfl) (fun _ _ _ h => h) (Or.inl ⟨by rfl, ?_⟩) hS ?_
  rotate_left
  · intro w' hSw
    (try dsimp only at hSw)
    go_simp
    all_goals with_reducible rfl
  try simp only [Act.put, List.setIfInBounds_toArray, List.set_cons_zero, List.set_cons_succ]
  refine AnyL.take (i := 3) (v := ?_) rfl (by kernel_rfl) (by kernel_rfl) (by kernel_rfl) 3 (by kernel_rfl) (by kernel_rfl) (by kernel_rfl) (fun _ _ _ h => h) (Or.inl ⟨by rfl, ?_⟩) hS ?_
  rotate_left
  · intro w' hSw
    (try dsimp only at hSw)
    go_simp
    all_goals with_reducible rfl
  try simp only [Act.put, List.setIfInBounds_toArray, List.set_cons_zero, List.set_cons_succ]
  refine AnyL.take (i := 4) (v := ?_) rfl (by kernel_rfl) (by kernel_rfl) (by kernel_rfl) 4 (by kernel_rfl) (by kernel_rfl) (by kernel_rfl) (fun _ _ _ h => h) (Or.inl ⟨by rfl, ?_⟩) hS ?_
  rotate_left
  · intro w' hSw
    (try dsimp only at hSw)
    go_simp
    all_goals with_reducible rfl
  try simp only [Act.put, List.setIfInBounds_toArray, List.set_cons_zero, List.set_cons_succ]
  refine AnyL.take (i := 5) (v := ?_) rfl (by kernel_rfl) (by kernel_rfl) (by kernel_rfl) 5 (by kernel_rfl) (by kernel_rfl) (by kernel_rfl) (fun _ _ _ h => h) (Or.inl ⟨by rfl, ?_⟩) hS ?_
  rotate_left
  · intro w' hSw
    (try dsimp only at hSw)
    go_simp
    all_goals with_reducible rfl
  try simp only [Act.put, List.setIfInBounds_toArray, List.set_cons_zero, List.set_cons_succ]
  refine AnyL.take (i := 6) (v := ?_) rfl (by kernel_rfl) (by kernel_rfl) (by kernel_rfl) 6 (by kernel_rfl) (by kernel_rfl) (by kernel_rfl) (fun _ _ _ h => h) (Or.inl ⟨by rfl, ?_⟩) hS ?_
  rotate_left
  · intro w' hSw
    (try dsimp only at hSw)
    go_simp
    all_goals with_reducible rfl
  try simp only [Act.put, List.setIfInBounds_toArray, List.set_cons_zero, List.set_cons_succ]
  refine AnyL.take (i := 7) (v := ?_) rfl (by kernel_rfl) (by kernel_rfl) (by kernel_rfl) 7 (by kernel_rfl) (by kernel_rfl) (by kernel_rfl) (fun _ _ _ h => h) (Or.inl ⟨by rfl, ?_⟩) hS ?_
  rotate_left
  · intro w' hSw
    (try dsimp only at hSw)
    go_simp
    all_goals with_reducible rfl
  try simp only [Act.put, List.setIfInBounds_toArray, List.set_cons_zero, List.set_cons_succ]
  refine AnyL.take (i := 8) (v := ?_) rfl (by kernel_rfl) (by kernel_rfl) (by kernel_rfl) 8 (by kernel_rfl) (by kernel_rfl) (by kernel_rfl) (fun _ _ _ h => h) (Or.inl ⟨by rfl, ?_⟩) hS ?_
  rotate_left
  · intro w' hSw
    (try dsimp only at hSw)
    go_simp
    all_goals with_reducible rfl
  try simp only [Act.put, List.setIfInBounds_toArray, List.set_cons_zero, List.set_cons_succ]
  refine AnyL.take (i := 9) (v := ?_) rfl (by kernel_rfl) (by kernel_rfl) (by kernel_rfl) 9 (by kernel_rfl) (by kernel_rfl) (by kernel_rfl) (fun _ _ _ h => h) (Or.inl ⟨by rfl, ?_⟩) hS ?_
  rotate_left
  · intro w' hSw
    (try dsimp only at hSw)
    go_simp
    all_goals with_reducible rfl
  try simp only [Act.put, List.setIfInBounds_toArray, List.set_cons_zero, List.set_cons_succ]
  refine AnyL.take (i := 10) (v := ?_) rfl (by kernel_rfl) (by kernel_rfl) (by kernel_rfl) 10 (by kernel_rfl) (by kernel_rfl) (by kernel_rfl) (fun _ _ _ h => h) (Or.inl ⟨by rfl, ?_⟩) hS ?_
  rotate_left
  · intro w' hSw
    (try dsimp only at hSw)
    go_simp
    all_goals with_reducible rfl
  try simp only [Act.put, List.setIfInBounds_toArray, List.set_cons_zero, List.set_cons_succ]
  refine AnyL.take (i := 11) (v := ?_) rfl (by kernel_rfl) (by kernel_rfl) (by kernel_rfl) 11 (by kernel_rfl) (by kernel_rfl) (by kernel_rfl) (fun _ _ _ h => h) (Or.inl ⟨by rfl, ?_⟩) hS ?_
  rotate_left
  · intro w' hSw
    (try dsimp only at hSw)
    go_simp
    all_goals with_reducible rfl
  try simp only [Act.put, List.setIfInBounds_toArray, List.set_cons_zero, List.set_cons_succ]
  refine AnyL.take (i := 12) (v := ?_) rfl (by kernel_rfl) (by kernel_rfl) (by kernel_rfl) 12 (by kernel_rfl) (by kernel_rfl) (by kernel_rfl) (fun _ _ _ h => h) (Or.inl ⟨by rfl, ?_⟩) hS ?_
  rotate_left
  · intro w' hSw
    (try dsimp only at hSw)
    go_simp
    all_goals with_reducible rfl
  try simp only [Act.put, List.setIfInBounds_toArray, List.set_cons_zero, List.set_cons_succ]
  refine AnyL.take (i := 13) (v := ?_) rfl (by kernel_rfl) (by kernel_rfl) (by kernel_rfl) 13 (by kernel_rfl) (by kernel_rfl) (by kernel_rfl) (fun _ _ _ h => h) (Or.inl ⟨by rfl, ?_⟩) hS ?_
  rotate_left
  · intro w' hSw
    (try dsimp only at hSw)
    go_simp
    all_goals with_reducible rfl
  try simp only [Act.put, List.setIfInBounds_toArray, List.set_cons_zero, List.set_cons_succ]
  refine AnyL.take (i := 14) (v := ?_) rfl (by kernel_rfl) (by kernel_rfl) (by kernel_rfl) 14 (by kernel_rfl) (by kernel_rfl) (by kernel_rfl) (fun _ _ _ h => h) (Or.inl ⟨by rfl, ?_⟩) hS ?_
  rotate_left
  · intro w' hSw
    (try dsimp only at hSw)
    go_simp
    all_goals with_reducible rfl
  try simp only [Act.put, List.setIfInBounds_toArray, List.set_cons_zero, List.set_cons_succ]
  refine AnyL.take (i := 15) (v := ?_) rfl (by kernel_rfl) (by kernel_rfl) (by kernel_rfl) 15 (by kernel_rfl) (by kernel_rfl) (by kernel_rfl) (fun _ _ _ h => h) (Or.inl ⟨by rfl, ?_⟩) hS ?_
  rotate_left
  · intro w' hSw
    (try dsimp only at hSw)
    go_simp
    all_goals with_reducible rfl
  try simp only [Act.put, List.setIfInBounds_toArray, List.set_cons_zero, List.set_cons_succ]
  refine AnyL.one (i := 16) rfl (by kernel_rfl) (fun K hK => ?_)
  go_simp
  go_wp2_with (go_at_call 62; refine HC.out.mono ?_; rintro e1 w1 ⟨g2, x2, c2, rfl, c3, f3, kk⟩)
  refine hK.out _ _ (Or.inr c3) ?_
  clear hK K
  have hS2 : ((fun w' => w'.cell? ⟨lp, 0, none⟩ = some (.slice (some ⟨lg, 0, none⟩) (les.length + 1) lcap)) : World → Prop) w1 := c3
  try simp only [Act.put, List.setIfInBounds_toArray, List.set_cons_zero, List.set_cons_succ]
  refine AnyL.take (i := 17) (v := ?_) rfl (by kernel_rfl) (by kernel_rfl) (by kernel_rfl) 18 (by kernel_rfl) (by kernel_rfl) (by kernel_rfl) (fun _ _ _ h => h) (Or.inl ⟨by rfl, ?_⟩) hS2 ?_
  rotate_left
  · intro w' hSw
    (try dsimp only at hSw)
    go_simp
    all_goals with_reducible rfl
  try simp only [Act.put, List.setIfInBounds_toArray, List.set_cons_zero, List.set_cons_succ]
  refine AnyL.take (i := 18) (v := ?_) rfl (by kernel_rfl) (by kernel_rfl) (by kernel_rfl) 18 (by kernel_rfl) (by kernel_rfl) (by kernel_rfl) (fun _ _ _ h => h) (Or.inl ⟨by rfl, ?_⟩) hS2 ?_
  rotate_left
  · intro w' hSw
    (try dsimp only at hSw)
    go_simp
    all_goals with_reducible rfl
  try simp only [Act.put, List.setIfInBounds_toArray, List.set_cons_zero, List.set_cons_succ]
  refine AnyL.one (i := 19) rfl (by kernel_rfl) (fun K hK => ?_)
  go_simp
  refine hK.out _ _ (Or.inl rfl) ?_
  clear hK K hS hS2
  refine AnyL.done (by kernel_rfl) ?_ _
  clear a3 l2 HC f3 c3
  obtain ⟨we, hwe⟩ : ∃ we, we = w1.setCell ⟨lp, 0, none⟩ (.slice (some ⟨g2, 0, none⟩) x2 c2) := ⟨_, rfl⟩
  rw [← hwe] at kk ⊢
  have gg : Grp w0 bs0 we [(⟨p, .slice (some ⟨eg, 0, none⟩) es.length ecap, .slice (some ⟨cg, 0, none⟩) ks.length ccap, es.set j (ls, lr)⟩, ks), (⟨lp, .slice (some ⟨g2, 0, none⟩) x2 c2, lc, les⟩, LK ++ o.toList), (⟨cp, .slice (some ⟨g1, 0, none⟩) x1 c1, cc, (ms, mr) :: ces⟩, cks)] := Grp.frame (A := [(⟨p, .slice (some ⟨eg, 0, none⟩) es.length ecap, .slice (some ⟨cg, 0, none⟩) ks.length ccap, es.set j (ls, lr)⟩, ks)]) (B := [(⟨cp, .slice (some ⟨g1, 0, none⟩) x1 c1, cc, (ms, mr) :: ces⟩, cks)]) HG.out kk
  clear HG kk hwe w1 wd
  have n2 := gg.n2; have n3 := gg.n3
  simp only at n2 n3
  have a3 := n2.c1; have a4 := n3.c1
  simp only at a3 a4
  cases o with
  | none =>
    have hz := ho rfl
    subst hz
    have hlc := n2.leaf rfl
    simp only at hlc
    subst hlc
    have hnil := fun w' => run_neq_slice_nil_any (P := Try.prog) w' 87 64 none 0 0 0 0 Try.underlying87
    go_wp2
    go_ret
    exact ⟨rfl, _, _, _, _, _, gg⟩
  | some k =>
    have hz := ho2 (by simp)
    obtain ⟨hg, hcap, hrest, hlc, hh1, hh2, hh3, hhB⟩ := n2.kidsOpen (by simp)
    simp only [Option.toList_some, List.length_append, List.length_cons, List.length_nil, Nat.zero_add] at hlc hh1 hh2 hh3 hhB gg n2 ⊢
    subst hlc
    have hnil := fun w' => run_neq_slice_nil_any (P := Try.prog) w' 87 64 (some ⟨hg, 0, none⟩) (LK.length + 1) hcap 0 0 Try.underlying87
    have a5 := kid_cell hhB (i := LK.length) (p := k) (by simp)
    unfold ptr at a5
    have l2 : lp < we.heap.size := n2.node.lt
    have l3 : cp < we.heap.size := n3.node.lt
    have b8 : LK.length ≤ 4000000000 := by omega
    have b9 : (LK.length : Int) < (LK.length : Int) + 1 := by omega
    have bw3 : IntKind.i64.wrap (LK.length : Int) = (LK.length : Int) := by rw [IntKind.wrap_i64]; omega
    have hW : we.grownBy (we.alloc (Obj.cells #[Value.pointer (some ⟨k, 0, none⟩)] 64)).drew none := grown_drew (World.grownBy_alloc _ _ _)
    have hy : BlockAt (we.alloc (Obj.cells #[Value.pointer (some ⟨k, 0, none⟩)] 64)).drew we.heap.size 64 [ptr k] := blockAt_new we 64 [ptr k]
    have gW := gg.grown hW
    have m3 := gW.n3
    simp only at m3
    have hown := gW.ownAt (A := [(⟨p, .slice (some ⟨eg, 0, none⟩) es.length ecap, .slice (some ⟨cg, 0, none⟩) ks.length ccap, es.set j (ls, lr)⟩, ks), (⟨lp, .slice (some ⟨g2, 0, none⟩) x2 c2, .slice (some ⟨hg, 0, none⟩) (LK.length + 1) hcap, les⟩, LK ++ [k])]) (B := [])
    have hC := insC_node (we.alloc (Obj.cells #[Value.pointer (some ⟨k, 0, none⟩)] 64)).drew cp _ cc ((ms, mr) :: ces) cks 0 we.heap.size k m3 hown (by omega) (by omega) hy (fun h => Nat.lt_irrefl _ (n3.lt _ h))
    rw [show ((0 : Nat) : Int) = 0 from rfl, List.take_zero, List.drop_zero, List.nil_append] at hC
    have HC := hidC hC
    have HG : Hid (Grp w0 bs0 (we.alloc (Obj.cells #[Value.pointer (some ⟨k, 0, none⟩)] 64)).drew [(⟨p, .slice (some ⟨eg, 0, none⟩) es.length ecap, .slice (some ⟨cg, 0, none⟩) ks.length ccap, es.set j (ls, lr)⟩, ks), (⟨lp, .slice (some ⟨g2, 0, none⟩) x2 c2, .slice (some ⟨hg, 0, none⟩) (LK.length + 1) hcap, les⟩, LK ++ [k]), (⟨cp, .slice (some ⟨g1, 0, none⟩) x1 c1, cc, (ms, mr) :: ces⟩, cks)]) := gW
    have l4 : hg < we.heap.size := hhB.lt
    have hback : ∀ (v : Value) (w1 : World), w1.cell? ⟨cp, 1, none⟩ = some cc → Grp (we.alloc (Obj.cells #[Value.pointer (some ⟨k, 0, none⟩)] 64)).drew (owns [(⟨cp, .slice (some ⟨g1, 0, none⟩) x1 c1, cc, (ms, mr) :: ces⟩, cks)]) (w1.setCell ⟨cp, 1, none⟩ v) [(⟨cp, .slice (some ⟨g1, 0, none⟩) x1 c1, v, (ms, mr) :: ces⟩, k :: cks)] → (fun w' => w'.cell? ⟨cp, 1, none⟩ = some cc ∧ w'.cell? ⟨lp, 1, none⟩ = some (.slice (some ⟨hg, 0, none⟩) (LK.length + 1) hcap) ∧ w'.cell? ⟨hg, LK.length, none⟩ = some (.pointer (some ⟨k, 0, none⟩))) w1 := by
      intro v w1 h1 h2
      have m2 := gW.n2
      simp only at m2
      have hap := own_apart (A := [(⟨p, .slice (some ⟨eg, 0, none⟩) es.length ecap, .slice (some ⟨cg, 0, none⟩) ks.length ccap, es.set j (ls, lr)⟩, ks)]) (B := []) (C := []) gW
      obtain ⟨r2, _, hB2⟩ := own_at m2.kids
      have q1 : w1.heap[lp]? = _ := grp_back h2 (b := lp) (by rw [owns_one]; exact hap lp (by simp [Hd.own])) m2.node.lt
      have q2 : w1.heap[hg]? = _ := grp_back h2 (b := hg) (by rw [owns_one]; exact hap hg (by simp [Hd.own, Value.ownBlock])) hB2.lt
      refine ⟨h1, ?_, ?_⟩
      · rw [(m2.node.same q1).cell]; rfl
      · exact kid_cell (hB2.same q2) (i := LK.length) (p := k) (by simp)
    clear hC hown m3 gW hy hW n2 n3 hhB hh3 hrest gg
    go_upto_region 10 with fail
    refine region_last (fun w' => w'.cell? ⟨cp, 1, none⟩ = some cc ∧ w'.cell? ⟨lp, 1, none⟩ = some (.slice (some ⟨hg, 0, none⟩) (LK.length + 1) hcap) ∧ w'.cell? ⟨hg, LK.length, none⟩ = some (.pointer (some ⟨k, 0, none⟩))) 21 (by kernel_rfl) ?_
    have hS : ((fun w' => w'.cell? ⟨cp, 1, none⟩ = some cc ∧ w'.cell? ⟨lp, 1, none⟩ = some (.slice (some ⟨hg, 0, none⟩) (LK.length + 1) hcap) ∧ w'.cell? ⟨hg, LK.length, none⟩ = some (.pointer (some ⟨k, 0, none⟩))) : World → Prop) we.drew := ⟨a4, a3, a5⟩
    refine AnyL.take (i := 0) (v := ?_) rfl (by kernel_rfl) (by kernel_rfl) (by kernel_rfl) 0 (by kernel_rfl) (by kernel_rfl) (by kernel_rfl) (fun _ _ _ h => h) (Or.inl ⟨by rfl, ?_⟩) hS ?_
    rotate_left
    · intro w' hSw
      (try dsimp only at hSw)
      go_simp
      all_goals with_reducible rfl
    try simp only [Act.put, List.setIfInBounds_toArray, List.set_cons_zero, List.set_cons_succ]
    refine AnyL.take (i := 1) (v := ?_) rfl (by kernel_rfl) (by kernel_rfl) (by kernel_rfl) 1 (by kernel_rfl) (by kernel_rfl) (by kernel_rfl) (fun _ _ _ h => h) (Or.inl ⟨by rfl, ?_⟩) hS ?_
    rotate_left
    · intro w' hSw
      (try dsimp only at hSw)
      go_simp
      all_goals with_reducible rfl
    try simp only [Act.put, List.setIfInBounds_toArray, List.set_cons_zero, List.set_cons_succ]
    refine AnyL.take (i := 2) (v := ?_) rfl (by kernel_rfl) (by kernel_rfl) (by kernel_rfl) 2 (by kernel_rfl) (by kernel_rfl) (by kernel_rfl) (fun _ _ _ h => h) (Or.inl ⟨by rfl, ?_⟩) hS ?_
    rotate_left
    · intro w' hSw
      (try dsimp only at hSw)
      go_simp
      all_goals with_reducible rfl
    try simp only [Act.put, List.setIfInBounds_toArray, List.set_cons_zero, List.set_cons_succ]
    refine AnyL.take (i := 3) (v := ?_) rfl (by kernel_rfl) (by kernel_rfl) (by kernel_rfl) 3 (by kernel_rfl) (by kernel_rfl) (by kernel_rfl) (fun _ _ _ h => h) (Or.inl ⟨by rfl, ?_⟩) hS ?_
    rotate_left
    · intro w' hSw
      (try dsimp only at hSw)
      go_simp
      all_goals with_reducible rfl
    try simp only [Act.put, List.setIfInBounds_toArray, List.set_cons_zero, List.set_cons_succ]
    refine AnyL.take (i := 4) (v := ?_) rfl (by kernel_rfl) (by kernel_rfl) (by kernel_rfl) 4 (by kernel_rfl) (by kernel_rfl) (by kernel_rfl) (fun _ _ _ h => h) (Or.inl ⟨by rfl, ?_⟩) hS ?_
    rotate_left
    · intro w' hSw
      (try dsimp only at hSw)
      go_simp
      all_goals with_reducible rfl
    try simp only [Act.put, List.setIfInBounds_toArray, List.set_cons_zero, List.set_cons_succ]
    refine AnyL.take (i := 5) (v := ?_) rfl (by kernel_rfl) (by kernel_rfl) (by kernel_rfl) 5 (by kernel_rfl) (by kernel_rfl) (by kernel_rfl) (fun _ _ _ h => h) (Or.inl ⟨by rfl, ?_⟩) hS ?_
    rotate_left
    · intro w' hSw
      (try dsimp only at hSw)
      go_simp
      all_goals with_reducible rfl
    try simp only [Act.put, List.setIfInBounds_toArray, List.set_cons_zero, List.set_cons_succ]
    refine AnyL.take (i := 6) (v := ?_) rfl (by kernel_rfl) (by kernel_rfl) (by kernel_rfl) 6 (by kernel_rfl) (by kernel_rfl) (by kernel_rfl) (fun _ _ _ h => h) (Or.inl ⟨by rfl, ?_⟩) hS ?_
    rotate_left
    · intro w' hSw
      (try dsimp only at hSw)
      go_simp
      all_goals with_reducible rfl
    try simp only [Act.put, List.setIfInBounds_toArray, List.set_cons_zero, List.set_cons_succ]
    refine AnyL.take (i := 7) (v := ?_) rfl (by kernel_rfl) (by kernel_rfl) (by kernel_rfl) 7 (by kernel_rfl) (by kernel_rfl) (by kernel_rfl) (fun _ _ _ h => h) (Or.inl ⟨by rfl, ?_⟩) hS ?_
    rotate_left
    · intro w' hSw
      (try dsimp only at hSw)
      go_simp
      all_goals with_reducible rfl
    try simp only [Act.put, List.setIfInBounds_toArray, List.set_cons_zero, List.set_cons_succ]
    refine AnyL.take (i := 8) (v := ?_) rfl (by kernel_rfl) (by kernel_rfl) (by kernel_rfl) 8 (by kernel_rfl) (by kernel_rfl) (by kernel_rfl) (fun _ _ _ h => h) (Or.inl ⟨by rfl, ?_⟩) hS ?_
    rotate_left
    · intro w' hSw
      (try dsimp only at hSw)
      go_simp
      all_goals with_reducible rfl
    try simp only [Act.put, List.setIfInBounds_toArray, List.set_cons_zero, List.set_cons_succ]
    refine AnyL.take (i := 9) (v := ?_) rfl (by kernel_rfl) (by kernel_rfl) (by kernel_rfl) 9 (by kernel_rfl) (by kernel_rfl) (by kernel_rfl) (fun _ _ _ h => h) (Or.inl ⟨by rfl, ?_⟩) hS ?_
    rotate_left
    · intro w' hSw
      (try dsimp only at hSw)
      go_simp
      all_goals with_reducible rfl
    try simp only [Act.put, List.setIfInBounds_toArray, List.set_cons_zero, List.set_cons_succ]
    refine AnyL.take (i := 10) (v := ?_) rfl (by kernel_rfl) (by kernel_rfl) (by kernel_rfl) 10 (by kernel_rfl) (by kernel_rfl) (by kernel_rfl) (fun _ _ _ h => h) (Or.inl ⟨by rfl, ?_⟩) hS ?_
    rotate_left
    · intro w' hSw
      (try dsimp only at hSw)
      go_simp
      all_goals with_reducible rfl
    try simp only [Act.put, List.setIfInBounds_toArray, List.set_cons_zero, List.set_cons_succ]
    refine AnyL.take (i := 11) (v := ?_) rfl (by kernel_rfl) (by kernel_rfl) (by kernel_rfl) 11 (by kernel_rfl) (by kernel_rfl) (by kernel_rfl) (fun _ _ _ h => h) (Or.inl ⟨by rfl, ?_⟩) hS ?_
    rotate_left
    · intro w' hSw
      (try dsimp only at hSw)
      go_simp
      all_goals with_reducible rfl
    try simp only [Act.put, List.setIfInBounds_toArray, List.set_cons_zero, List.set_cons_succ]
    refine AnyL.take (i := 12) (v := ?_) rfl (by kernel_rfl) (by kernel_rfl) (by kernel_rfl) 12 (by kernel_rfl) (by kernel_rfl) (by kernel_rfl) (fun _ _ _ h => h) (Or.inl ⟨by rfl, ?_⟩) hS ?_
    rotate_left
    · intro w' hSw
      (try dsimp only at hSw)
      go_simp
      all_goals with_reducible rfl
    try simp only [Act.put, List.setIfInBounds_toArray, List.set_cons_zero, List.set_cons_succ]
    refine AnyL.take (i := 13) (v := ?_) rfl (by kernel_rfl) (by kernel_rfl) (by kernel_rfl) 13 (by kernel_rfl) (by kernel_rfl) (by kernel_rfl) (fun _ _ _ h => h) (Or.inl ⟨by rfl, ?_⟩) hS ?_
    rotate_left
    · intro w' hSw
      (try dsimp only at hSw)
      go_simp
      all_goals with_reducible rfl
    try simp only [Act.put, List.setIfInBounds_toArray, List.set_cons_zero, List.set_cons_succ]
    refine AnyL.take (i := 14) (v := ?_) rfl (by kernel_rfl) (by kernel_rfl) (by kernel_rfl) 14 (by kernel_rfl) (by kernel_rfl) (by kernel_rfl) (fun _ _ _ h => h) (Or.inl ⟨by rfl, ?_⟩) hS ?_
    rotate_left
    · intro w' hSw
      (try dsimp only at hSw)
      go_simp
      all_goals with_reducible rfl
    try simp only [Act.put, List.setIfInBounds_toArray, List.set_cons_zero, List.set_cons_succ]
    refine AnyL.take (i := 15) (v := ?_) rfl (by kernel_rfl) (by kernel_rfl) (by kernel_rfl) 15 (by kernel_rfl) (by kernel_rfl) (by kernel_rfl) (fun _ _ _ h => h) (Or.inl ⟨by rfl, ?_⟩) hS ?_
    rotate_left
    · intro w' hSw
      (try dsimp only at hSw)
      go_simp
      all_goals with_reducible rfl
    try simp only [Act.put, List.setIfInBounds_toArray, List.set_cons_zero, List.set_cons_succ]
    refine AnyL.take (i := 16) (v := ?_) rfl (by kernel_rfl) (by kernel_rfl) (by kernel_rfl) 16 (by kernel_rfl) (by kernel_rfl) (by kernel_rfl) (fun _ _ _ h => h) (Or.inl ⟨by rfl, ?_⟩) hS ?_
    rotate_left
    · intro w' hSw
      (try dsimp only at hSw)
      go_simp
      all_goals with_reducible rfl
    try simp only [Act.put, List.setIfInBounds_toArray, List.set_cons_zero, List.set_cons_succ]
    refine AnyL.one (i := 17) rfl (by kernel_rfl) (fun K hK => ?_)
    go_simp
    refine hK.out _ _ (Or.inr (by (try dsimp only); go_keep)) ?_
    clear hK K
    try simp only [Act.put, List.setIfInBounds_toArray, List.set_cons_zero, List.set_cons_succ]
    refine AnyL.one (i := 18) rfl (by kernel_rfl) (fun K hK => ?_)
    go_simp
    go_wp2_with (go_at_call 73; refine HC.out.mono ?_; rintro e1 w1 ⟨g3, x3, c3, rfl, c3b, f3, kk⟩)
    refine hK.out _ _ (Or.inr (hback _ _ c3b kk)) ?_
    clear hK K
    have hS2 : ((fun w' => w'.cell? ⟨cp, 1, none⟩ = some cc ∧ w'.cell? ⟨lp, 1, none⟩ = some (.slice (some ⟨hg, 0, none⟩) (LK.length + 1) hcap) ∧ w'.cell? ⟨hg, LK.length, none⟩ = some (.pointer (some ⟨k, 0, none⟩))) : World → Prop) w1 := (hback _ _ c3b kk)
    try simp only [Act.put, List.setIfInBounds_toArray, List.set_cons_zero, List.set_cons_succ]
    refine AnyL.take (i := 19) (v := ?_) rfl (by kernel_rfl) (by kernel_rfl) (by kernel_rfl) 20 (by kernel_rfl) (by kernel_rfl) (by kernel_rfl) (fun _ _ _ h => h) (Or.inl ⟨by rfl, ?_⟩) hS2 ?_
    rotate_left
    · intro w' hSw
      (try dsimp only at hSw)
      go_simp
      all_goals with_reducible rfl
    try simp only [Act.put, List.setIfInBounds_toArray, List.set_cons_zero, List.set_cons_succ]
    refine AnyL.take (i := 20) (v := ?_) rfl (by kernel_rfl) (by kernel_rfl) (by kernel_rfl) 20 (by kernel_rfl) (by kernel_rfl) (by kernel_rfl) (fun _ _ _ h => h) (Or.inl ⟨by rfl, ?_⟩) hS2 ?_
    rotate_left
    · intro w' hSw
      (try dsimp only at hSw)
      go_simp
      all_goals with_reducible rfl
    try simp only [Act.put, List.setIfInBounds_toArray, List.set_cons_zero, List.set_cons_succ]
    refine AnyL.one (i := 21) rfl (by kernel_rfl) (fun K hK => ?_)
    go_simp
    refine hK.out _ _ (Or.inl rfl) ?_
    clear hK K hS hS2
    refine AnyL.done (by kernel_rfl) ?_ _
    clear a3 a4 a5 l2 l3 l4 HC hback c3b f3
    obtain ⟨wf, hwf⟩ : ∃ wf, wf = w1.setCell ⟨cp, 1, none⟩ (.slice (some ⟨g3, 0, none⟩) x3 c3) := ⟨_, rfl⟩
    rw [← hwf] at kk ⊢
    have gg : Grp w0 bs0 wf [(⟨p, .slice (some ⟨eg, 0, none⟩) es.length ecap, .slice (some ⟨cg, 0, none⟩) ks.length ccap, es.set j (ls, lr)⟩, ks), (⟨lp, .slice (some ⟨g2, 0, none⟩) x2 c2, .slice (some ⟨hg, 0, none⟩) (LK.length + 1) hcap, les⟩, LK ++ [k]), (⟨cp, .slice (some ⟨g1, 0, none⟩) x1 c1, .slice (some ⟨g3, 0, none⟩) x3 c3, (ms, mr) :: ces⟩, k :: cks)] := Grp.frame (A := [(⟨p, .slice (some ⟨eg, 0, none⟩) es.length ecap, .slice (some ⟨cg, 0, none⟩) ks.length ccap, es.set j (ls, lr)⟩, ks), (⟨lp, .slice (some ⟨g2, 0, none⟩) x2 c2, .slice (some ⟨hg, 0, none⟩) (LK.length + 1) hcap, les⟩, LK ++ [k])]) (B := []) HG.out kk
    clear HG kk hwf w1
    have n2 := gg.n2
    simp only at n2
    have a3 := n2.c1
    simp only at a3
    have l2 : lp < wf.heap.size := n2.node.lt
    have hown := gg.ownAt (A := [(⟨p, .slice (some ⟨eg, 0, none⟩) es.length ecap, .slice (some ⟨cg, 0, none⟩) ks.length ccap, es.set j (ls, lr)⟩, ks)]) (B := [(⟨cp, .slice (some ⟨g1, 0, none⟩) x1 c1, .slice (some ⟨g3, 0, none⟩) x3 c3, (ms, mr) :: ces⟩, k :: cks)])
    have hC := delC_node wf.drew lp _ _ les (LK ++ [k]) LK.length (LK.length + 1) (n2.same fun _ _ => rfl) hown (by omega) (by simp) (by have := List.length_pos_iff.2 hz; omega)
    rw [List.take_left, List.drop_eq_nil_of_le (by simp), List.append_nil] at hC
    rw [show ((LK.length + 1 : Nat) : Int) = (LK.length : Int) + 1 from rfl] at hC
    have HC := hidC hC
    have HG : Hid (Grp w0 bs0 wf.drew [(⟨p, .slice (some ⟨eg, 0, none⟩) es.length ecap, .slice (some ⟨cg, 0, none⟩) ks.length ccap, es.set j (ls, lr)⟩, ks), (⟨lp, .slice (some ⟨g2, 0, none⟩) x2 c2, .slice (some ⟨hg, 0, none⟩) (LK.length + 1) hcap, les⟩, LK ++ [k]), (⟨cp, .slice (some ⟨g1, 0, none⟩) x1 c1, .slice (some ⟨g3, 0, none⟩) x3 c3, (ms, mr) :: ces⟩, k :: cks)]) := gg.grown (grown_drew (World.grownBy.refl wf _))
    clear hC hown n2 gg
    go_upto_region 11 with fail
    refine region_last (fun w' => w'.cell? ⟨lp, 1, none⟩ = some (.slice (some ⟨hg, 0, none⟩) (LK.length + 1) hcap)) 19 (by kernel_rfl) ?_
    have hS : ((fun w' => w'.cell? ⟨lp, 1, none⟩ = some (.slice (some ⟨hg, 0, none⟩) (LK.length + 1) hcap)) : World → Prop) wf.drew := a3
    refine AnyL.take (i := 0) (v := ?_) rfl (by kernel_rfl) (by kernel_rfl) (by kernel_rfl) 0 (by kernel_rfl) (by kernel_rfl) (by kernel_rfl) (fun _ _ _ h => h) (Or.inl ⟨by rfl, ?_⟩) hS ?_
    rotate_left
    · intro w' hSw
      (try dsimp only at hSw)
      go_simp
      all_goals with_reducible rfl
    try simp only [Act.put, List.setIfInBounds_toArray, List.set_cons_zero, List.set_cons_succ]
    refine AnyL.take (i := 1) (v := ?_) rfl (by kernel_rfl) (by kernel_rfl) (by kernel_rfl) 1 (by kernel_rfl) (by kernel_rfl) (by kernel_rfl) (fun _ _ _ h => h) (Or.inl ⟨by rfl, ?_⟩) hS ?_
    rotate_left
    · intro w' hSw
      (try dsimp only at hSw)
      go_simp
      all_goals with_reducible rfl
    try simp only [Act.put, List.setIfInBounds_toArray, List.set_cons_zero, List.set_cons_succ]
    refine AnyL.take (i := 2) (v := ?_) rfl (by kernel_rfl) (by kernel_rfl) (by kernel_rfl) 2 (by kernel_rfl) (by kernel_rfl) (by kernel_rfl) (fun _ _ _ h => h) (Or.inl ⟨by rfl, ?_⟩) hS ?_
    rotate_left
    · intro w' hSw
      (try dsimp only at hSw)
      go_simp
      all_goals with_reducible rfl
    try simp only [Act.put, List.setIfInBounds_toArray, List.set_cons_zero, List.set_cons_succ]
    refine AnyL.take (i := 3) (v := ?_) rfl (by kernel_rfl) (by kernel_rfl) (by kernel_rfl) 3 (by kernel_rfl) (by kernel_rfl) (by kernel_rfl) (fun _ _ _ h => h) (Or.inl ⟨by rfl, ?_⟩) hS ?_
    rotate_left
    · intro w' hSw
      (try dsimp only at hSw)
      go_simp
      all_goals with_reducible rfl
    try simp only [Act.put, List.setIfInBounds_toArray, List.set_cons_zero, List.set_cons_succ]
    refine AnyL.take (i := 4) (v := ?_) rfl (by kernel_rfl) (by kernel_rfl) (by kernel_rfl) 4 (by kernel_rfl) (by kernel_rfl) (by kernel_rfl) (fun _ _ _ h => h) (Or.inl ⟨by rfl, ?_⟩) hS ?_
    rotate_left
    · intro w' hSw
      (try dsimp only at hSw)
      go_simp
      all_goals with_reducible rfl
    try simp only [Act.put, List.setIfInBounds_toArray, List.set_cons_zero, List.set_cons_succ]
    refine AnyL.take (i := 5) (v := ?_) rfl (by kernel_rfl) (by kernel_rfl) (by kernel_rfl) 5 (by kernel_rfl) (by kernel_rfl) (by kernel_rfl) (fun _ _ _ h => h) (Or.inl ⟨by rfl, ?_⟩) hS ?_
    rotate_left
    · intro w' hSw
      (try dsimp only at hSw)
      go_simp
      all_goals with_reducible rfl
    try simp only [Act.put, List.setIfInBounds_toArray, List.set_cons_zero, List.set_cons_succ]
    refine AnyL.take (i := 6) (v := ?_) rfl (by kernel_rfl) (by kernel_rfl) (by kernel_rfl) 6 (by kernel_rfl) (by kernel_rfl) (by kernel_rfl) (fun _ _ _ h => h) (Or.inl ⟨by rfl, ?_⟩) hS ?_
    rotate_left
    · intro w' hSw
      (try dsimp only at hSw)
      go_simp
      all_goals with_reducible rfl
    try simp only [Act.put, List.setIfInBounds_toArray, List.set_cons_zero, List.set_cons_succ]
    refine AnyL.take (i := 7) (v := ?_) rfl (by kernel_rfl) (by kernel_rfl) (by kernel_rfl) 7 (by kernel_rfl) (by kernel_rfl) (by kernel_rfl) (fun _ _ _ h => h) (Or.inl ⟨by rfl, ?_⟩) hS ?_
    rotate_left
    · intro w' hSw
      (try dsimp only at hSw)
      go_simp
      all_goals with_reducible rfl
    try simp only [Act.put, List.setIfInBounds_toArray, List.set_cons_zero, List.set_cons_succ]
    refine AnyL.take (i := 8) (v := ?_) rfl (by kernel_rfl) (by kernel_rfl) (by kernel_rfl) 8 (by kernel_rfl) (by kernel_rfl) (by kernel_rfl) (fun _ _ _ h => h) (Or.inl ⟨by rfl, ?_⟩) hS ?_
    rotate_left
    · intro w' hSw
      (try dsimp only at hSw)
      go_simp
      all_goals with_reducible rfl
    try simp only [Act.put, List.setIfInBounds_toArray, List.set_cons_zero, List.set_cons_succ]
    refine AnyL.take (i := 9) (v := ?_) rfl (by kernel_rfl) (by kernel_rfl) (by kernel_rfl) 9 (by kernel_rfl) (by kernel_rfl) (by kernel_rfl) (fun _ _ _ h => h) (Or.inl ⟨by rfl, ?_⟩) hS ?_
    rotate_left
    · intro w' hSw
      (try dsimp only at hSw)
      go_simp
      all_goals with_reducible rfl
    try simp only [Act.put, List.setIfInBounds_toArray, List.set_cons_zero, List.set_cons_succ]
    refine AnyL.take (i := 10) (v := ?_) rfl (by kernel_rfl) (by kernel_rfl) (by kernel_rfl) 10 (by kernel_rfl) (by kernel_rfl) (by kernel_rfl) (fun _ _ _ h => h) (Or.inl ⟨by rfl, ?_⟩) hS ?_
    rotate_left
    · intro w' hSw
      (try dsimp only at hSw)
      go_simp
      all_goals with_reducible rfl
    try simp only [Act.put, List.setIfInBounds_toArray, List.set_cons_zero, List.set_cons_succ]
    refine AnyL.take (i := 11) (v := ?_) rfl (by kernel_rfl) (by kernel_rfl) (by kernel_rfl) 11 (by kernel_rfl) (by kernel_rfl) (by kernel_rfl) (fun _ _ _ h => h) (Or.inl ⟨by rfl, ?_⟩) hS ?_
    rotate_left
    · intro w' hSw
      (try dsimp only at hSw)
      go_simp
      all_goals with_reducible rfl
    try simp only [Act.put, List.setIfInBounds_toArray, List.set_cons_zero, List.set_cons_succ]
    refine AnyL.take (i := 12) (v := ?_) rfl (by kernel_rfl) (by kernel_rfl) (by kernel_rfl) 12 (by kernel_rfl) (by kernel_rfl) (by kernel_rfl) (fun _ _ _ h => h) (Or.inl ⟨by rfl, ?_⟩) hS ?_
    rotate_left
    · intro w' hSw
      (try dsimp only at hSw)
      go_simp
      all_goals with_reducible rfl
    try simp only [Act.put, List.setIfInBounds_toArray, List.set_cons_zero, List.set_cons_succ]
    refine AnyL.take (i := 13) (v := ?_) rfl (by kernel_rfl) (by kernel_rfl) (by kernel_rfl) 13 (by kernel_rfl) (by kernel_rfl) (by kernel_rfl) (fun _ _ _ h => h) (Or.inl ⟨by rfl, ?_⟩) hS ?_
    rotate_left
    · intro w' hSw
      (try dsimp only at hSw)
      go_simp
      all_goals with_reducible rfl
    try simp only [Act.put, List.setIfInBounds_toArray, List.set_cons_zero, List.set_cons_succ]
    refine AnyL.take (i := 14) (v := ?_) rfl (by kernel_rfl) (by kernel_rfl) (by kernel_rfl) 14 (by kernel_rfl) (by kernel_rfl) (by kernel_rfl) (fun _ _ _ h => h) (Or.inl ⟨by rfl, ?_⟩) hS ?_
    rotate_left
    · intro w' hSw
      (try dsimp only at hSw)
      go_simp
      all_goals with_reducible rfl
    try simp only [Act.put, List.setIfInBounds_toArray, List.set_cons_zero, List.set_cons_succ]
    refine AnyL.take (i := 15) (v := ?_) rfl (by kernel_rfl) (by kernel_rfl) (by kernel_rfl) 15 (by kernel_rfl) (by kernel_rfl) (by kernel_rfl) (fun _ _ _ h => h) (Or.inl ⟨by rfl, ?_⟩) hS ?_
    rotate_left
    · intro w' hSw
      (try dsimp only at hSw)
      go_simp
      all_goals with_reducible rfl
    try simp only [Act.put, List.setIfInBounds_toArray, List.set_cons_zero, List.set_cons_succ]
    refine AnyL.one (i := 16) rfl (by kernel_rfl) (fun K hK => ?_)
    go_simp
    go_wp2_with (go_at_call 72; refine HC.out.mono ?_; rintro e1 w1 ⟨g4, x4, c4, rfl, c3b, f3, kk⟩)
    refine hK.out _ _ (Or.inr c3b) ?_
    clear hK K
    have hS2 : ((fun w' => w'.cell? ⟨lp, 1, none⟩ = some (.slice (some ⟨hg, 0, none⟩) (LK.length + 1) hcap)) : World → Prop) w1 := c3b
    try simp only [Act.put, List.setIfInBounds_toArray, List.set_cons_zero, List.set_cons_succ]
    refine AnyL.take (i := 17) (v := ?_) rfl (by kernel_rfl) (by kernel_rfl) (by kernel_rfl) 18 (by kernel_rfl) (by kernel_rfl) (by kernel_rfl) (fun _ _ _ h => h) (Or.inl ⟨by rfl, ?_⟩) hS2 ?_
    rotate_left
    · intro w' hSw
      (try dsimp only at hSw)
      go_simp
      all_goals with_reducible rfl
    try simp only [Act.put, List.setIfInBounds_toArray, List.set_cons_zero, List.set_cons_succ]
    refine AnyL.take (i := 18) (v := ?_) rfl (by kernel_rfl) (by kernel_rfl) (by kernel_rfl) 18 (by kernel_rfl) (by kernel_rfl) (by kernel_rfl) (fun _ _ _ h => h) (Or.inl ⟨by rfl, ?_⟩) hS2 ?_
    rotate_left
    · intro w' hSw
      (try dsimp only at hSw)
      go_simp
      all_goals with_reducible rfl
    try simp only [Act.put, List.setIfInBounds_toArray, List.set_cons_zero, List.set_cons_succ]
    refine AnyL.one (i := 19) rfl (by kernel_rfl) (fun K hK => ?_)
    go_simp
    refine hK.out _ _ (Or.inl rfl) ?_
    clear hK K hS hS2
    refine AnyL.done (by kernel_rfl) ?_ _
    have gg := Grp.frame (A := [(⟨p, .slice (some ⟨eg, 0, none⟩) es.length ecap, .slice (some ⟨cg, 0, none⟩) ks.length ccap, es.set j (ls, lr)⟩, ks)]) (B := [(⟨cp, .slice (some ⟨g1, 0, none⟩) x1 c1, .slice (some ⟨g3, 0, none⟩) x3 c3, (ms, mr) :: ces⟩, k :: cks)]) HG.out kk
    clear a3 l2 HC HG kk c3b f3
    go_wp2
    go_ret
    exact ⟨rfl, _, _, _, _, _, gg⟩
end Go.Proofs.Qxb6601380a
