/-
  fill (65), where the child behind has an entry to spare and the one before has none.
-/
import Derived.Test.Qxb6601380aOpn
import Derived.Deep.DeepCutAuto
import Derived.BigQuiet
import Derived.Deep.RegionHeld
import Derived.Test.Qxb6601380aLst
namespace Go.Proofs.Qxb6601380a
open Go.RowKit

set_option linter.unusedSimpArgs false in
set_option maxHeartbeats 8000000 in
set_option maxRecDepth 100000 in
theorem fill_right (w0 : World) (bs0 : List Nat) (w : World) (p ve vc es ks : _) (cp ce cc ces cks : _) (rp re rc res : _) (RK : List Nat) (o : Option Nat) (i : Nat) (rs : ByteArray) (rr : Int)
    (g : Grp w0 bs0 w [(⟨p, ve, vc, es⟩, ks), (⟨cp, ce, cc, ces⟩, cks), (⟨rp, re, rc, (rs, rr) :: res⟩, o.toList ++ RK)])
    (hi : ks[i]? = some cp) (hi1 : ks[i + 1]? = some rp) (ms mr : _) (hm : es[i]? = some (ms, mr)) (hes : es.length ≤ 100) (hks : ks.length ≤ 100)
    (hr0 : 15 ≤ res.length) (hr1 : res.length ≤ 31) (hc1 : ces.length ≤ 31) (hr2 : RK.length ≤ 100) (hc2 : cks.length ≤ 100) (ho : o = none → RK = []) (ho2 : o ≠ none → RK ≠ [])
    (hbef : i = 0 ∨ ∃ lp le, ks[i - 1]? = some lp ∧ w.cell? ⟨lp, 0, none⟩ = some le ∧ ∃ a n c, le = .slice a n c ∧ n ≤ 15) :
    Calls Try.prog 65 #[ptr p, .int .i64 i] w fun e w' => e = .returned (.int .i64 i) ∧ ∃ ve' re' rc' ce' cc',
      Grp w0 bs0 w' [(⟨p, ve', vc, es.set i (rs, rr)⟩, ks), (⟨cp, ce', cc', ces ++ [(ms, mr)]⟩, cks ++ o.toList), (⟨rp, re', rc', res⟩, RK)] := by
  have hil := (List.getElem?_eq_some_iff.1 hi1).1
  have hie := (List.getElem?_eq_some_iff.1 hm).1
  have n1 := g.n1; have n2 := g.n2; have n3 := g.n3
  simp only at n1 n2 n3
  obtain ⟨cg, ccap, crest, hvc, hk1, hk2, hk3, hcB⟩ := n1.kidsOpen (by omega)
  obtain ⟨eg, ecap, erest, hve, he1, he2, he3, heB⟩ := n1.entsOpen (by simp only; omega)
  obtain ⟨rg, rcap, rrest, hre, hr3, hr4, hr5, hrB⟩ := n3.entsOpen (by simp)
  simp only at hk1 hk2 hk3 hcB hvc hve he1 he2 he3 heB hre hr3 hr4 hr5 hrB
  subst hvc hve
  simp only [List.length_cons] at hre hr3
  subst hre
  have a1 := n1.c0
  have a2 := n1.c1
  have a3 := n3.c0
  have a5 := kid_cell hcB hi
  have a6 := kid_cell hcB hi1
  have a9 := n2.c0
  simp only at a1 a2 a3 a9
  unfold ptr at a5 a6
  have b1 : (i : Int) < (ks.length : Int) := by omega
  have b2 : (i : Int) + 1 < (ks.length : Int) := by omega
  have b3 : i ≤ 4000000000 := by omega
  have b4 : (i : Int) < (es.length : Int) := by omega
  have b5 : (15 : Int) < (res.length : Int) + 1 := by omega
  obtain ⟨a7, a8⟩ := ent_cell heB hm
  have l1 : p < w.heap.size := n1.node.lt
  have l2 : rp < w.heap.size := n3.node.lt
  have l3 : cp < w.heap.size := n2.node.lt
  -- the append of the entry between, ahead
  have hW : w.grownBy (w.alloc (Obj.cells #[Value.string ms, Value.int IntKind.u32 mr] 36)).drew none := grown_drew (World.grownBy_alloc _ _ _)
  have hy : BlockAt (w.alloc (Obj.cells #[Value.string ms, Value.int IntKind.u32 mr] 36)).drew w.heap.size 36 [.string ms, .int .u32 mr] := blockAt_new w 36 [.string ms, .int .u32 mr]
  have gW := g.grown hW
  have m2 := gW.n2
  simp only at m2
  have hown := gW.ownAt (A := [(⟨p, .slice (some ⟨eg, 0, none⟩) es.length ecap, .slice (some ⟨cg, 0, none⟩) ks.length ccap, es⟩, ks)]) (B := [(⟨rp, .slice (some ⟨rg, 0, none⟩) (res.length + 1) rcap, rc, (rs, rr) :: res⟩, o.toList ++ RK)])
  obtain ⟨g1, x1, c1, w1, hr, c3, f3, k⟩ := appE_node (w.alloc (Obj.cells #[Value.string ms, Value.int IntKind.u32 mr] 36)).drew cp ce cc ces cks w.heap.size ms mr m2 hown (by omega) hy
  have HA : Hid ((Builtin.append_ #[26, 26] 26 #[ce, .slice (some ⟨w.heap.size, 0, none⟩) 1 1]).run Try.prog (w.alloc (Obj.cells #[Value.string ms, Value.int IntKind.u32 mr] 36)).drew = .ok (.slice (some ⟨g1, 0, none⟩) x1 c1) w1) := hr
  have HK : Hid (Grp w0 bs0 (w1.setCell ⟨cp, 0, none⟩ (.slice (some ⟨g1, 0, none⟩) x1 c1)) [(⟨p, .slice (some ⟨eg, 0, none⟩) es.length ecap, .slice (some ⟨cg, 0, none⟩) ks.length ccap, es⟩, ks), (⟨cp, .slice (some ⟨g1, 0, none⟩) x1 c1, cc, ces ++ [(ms, mr)]⟩, cks), (⟨rp, .slice (some ⟨rg, 0, none⟩) (res.length + 1) rcap, rc, (rs, rr) :: res⟩, o.toList ++ RK)]) := Grp.frame (A := [(⟨p, .slice (some ⟨eg, 0, none⟩) es.length ecap, .slice (some ⟨cg, 0, none⟩) ks.length ccap, es⟩, ks)]) (B := [(⟨rp, .slice (some ⟨rg, 0, none⟩) (res.length + 1) rcap, rc, (rs, rr) :: res⟩, o.toList ++ RK)]) gW k
  have l4 : eg < w.heap.size := heB.lt
  have hS14 : (fun w' => w'.cell? ⟨cp, 0, none⟩ = some ce ∧ w'.cell? ⟨p, 0, none⟩ = some (.slice (some ⟨eg, 0, none⟩) es.length ecap) ∧ w'.cell? ⟨eg, i * 2, none⟩ = some (.string ms) ∧ w'.cell? ⟨eg, i * 2 + 1, none⟩ = some (.int .u32 mr)) w1 := by
    have m1 := gW.n1
    simp only at m1
    have hap := own_apart (A := []) (B := []) (C := [(⟨rp, .slice (some ⟨rg, 0, none⟩) (res.length + 1) rcap, rc, (rs, rr) :: res⟩, o.toList ++ RK)]) gW
    obtain ⟨r2, _, hB2⟩ := own_at m1.ents
    have q1 : w1.heap[p]? = _ := grp_back k (b := p) (by rw [owns_one]; exact hap p (by simp [Hd.own])) m1.node.lt
    have q2 : w1.heap[eg]? = _ := grp_back k (b := eg) (by rw [owns_one]; exact hap eg (by simp [Hd.own, Value.ownBlock])) hB2.lt
    refine ⟨c3, ?_, ent_cell (hB2.same q2) hm⟩
    rw [(m1.node.same q1).cell]; rfl
  clear hr k hown m2 gW hy hW n1 n2 n3 hrB hr5 rrest heB he3 erest
  unfold ptr
  go_enter Try.func65, Try.ntmps65
  go_upto_region 4 with fail
  go_cut [21] (fun x wx => x = .bool false ∧ wx = w)
  case first =>
    rcases Nat.eq_zero_or_pos i with h0 | h0
    · subst h0
      have hd0 : decide ((0 : Int) < (0 : Int)) = false := by decide
      clear hbef
      go_wp2_with fail
      go_meet
      exact ⟨rfl, rfl⟩
    · obtain ⟨lp, le, h1, h2, a, n, c, rfl, h3⟩ := hbef.resolve_left (by omega)
      obtain ⟨j, rfl⟩ : ∃ j, i = j + 1 := ⟨i - 1, by omega⟩
      have e1 : ((j + 1 : Nat) : Int) = (j : Int) + 1 := rfl
      simp only [Nat.add_sub_cancel] at h1
      have q1 := kid_cell hcB h1
      unfold ptr at q1
      have q2 : decide ((15 : Int) < (n : Int)) = false := by simp; omega
      have q3 : (0 : Int) < (j : Int) + 1 := by omega
      have q4 : (j : Int) < (ks.length : Int) := by omega
      have q5 : j ≤ 4000000000 := by omega
      clear hbef HK HA hcB hi hi1 hm g b1 b2 b3 b4 b5
      rw [e1]
      clear e1
      go_wp2_with fail
      go_meet
      exact ⟨rfl, rfl⟩
  case rest =>
    obtain ⟨rfl, rfl⟩ := hcut
    clear hbef hcB hk3 crest g
    go_upto_region 14 with fail
    refine region_last (fun w' => w'.cell? ⟨cp, 0, none⟩ = some ce ∧ w'.cell? ⟨p, 0, none⟩ = some (.slice (some ⟨eg, 0, none⟩) es.length ecap) ∧ w'.cell? ⟨eg, i * 2, none⟩ = some (.string ms) ∧ w'.cell? ⟨eg, i * 2 + 1, none⟩ = some (.int .u32 mr)) 16 (by kernel_rfl) ?_
    have hS : ((fun w' => w'.cell? ⟨cp, 0, none⟩ = some ce ∧ w'.cell? ⟨p, 0, none⟩ = some (.slice (some ⟨eg, 0, none⟩) es.length ecap) ∧ w'.cell? ⟨eg, i * 2, none⟩ = some (.string ms) ∧ w'.cell? ⟨eg, i * 2 + 1, none⟩ = some (.int .u32 mr)) : World → Prop) wc.drew := ⟨a9, a1, a7, a8⟩
    refine AnyL.take (i := 0) (v := ?_) rfl (by kernel_rfl) (by kernel_rfl) (by kernel_rfl) 0 (by kernel_rfl) (by kernel_rfl) (by kernel_rfl) (fun _ _ _ h => h) (Or.inl ⟨by rfl, ?_⟩) hS ?_
    rotate_left
    · intro w' hSw
      (try dsimp only at hSw)
      go_simp
      all_goals with_reducible rfl
    try simp only [Act.put, List.setIfInBounds_toArray, List.set_cons_zero, List.set_cons_succ]
    refine AnyL.take (i := 1) (v := ?_) rfl (by kernel_rfl) (by kernel_rfl) (by kernel_rfl) 1 (by kernel_rfl) (by kernel_rfl) (by kernel_rfl) (fun _ _ _ h => h) (Or.inl ⟨by rfl, ?_⟩) hS ?_
    rotate_left
    · intro w' hSw
      (try dsimp only at hSw)
      go_simp
      all_goals with_reducible rfl
    try simp only [Act.put, List.setIfInBounds_toArray, List.set_cons_zero, List.set_cons_succ]
    refine AnyL.take (i := 2) (v := ?_) rfl (by kernel_rfl) (by kernel_rfl) (by kernel_rfl) 2 (by kernel_rfl) (by kernel_rfl) (by kernel_rfl) (fun _ _ _ h => h) (Or.inl ⟨by rfl, ?_⟩) hS ?_
    rotate_left
    · intro w' hSw
      (try dsimp only at hSw)
      go_simp
      all_goals with_reducible rfl
    try simp only [Act.put, List.setIfInBounds_toArray, List.set_cons_zero, List.set_cons_succ]
    refine AnyL.take (i := 3) (v := ?_) rfl (by kernel_rfl) (by kernel_rfl) (by kernel_rfl) 3 (by kernel_rfl) (by kernel_rfl) (by kernel_rfl) (fun _ _ _ h => h) (Or.inl ⟨by rfl, ?_⟩) hS ?_
    rotate_left
    · intro w' hSw
      (try dsimp only at hSw)
      go_simp
      all_goals with_reducible rfl
    try simp only [Act.put, List.setIfInBounds_toArray, List.set_cons_zero, List.set_cons_succ]
    refine AnyL.take (i := 4) (v := ?_) rfl (by kernel_rfl) (by kernel_rfl) (by kernel_rfl) 4 (by kernel_rfl) (by kernel_rfl) (by kernel_rfl) (fun _ _ _ h => h) (Or.inl ⟨by rfl, ?_⟩) hS ?_
    rotate_left
    · intro w' hSw
      (try dsimp only at hSw)
      go_simp
      all_goals with_reducible rfl
    try simp only [Act.put, List.setIfInBounds_toArray, List.set_cons_zero, List.set_cons_succ]
    refine AnyL.take (i := 5) (v := ?_) rfl (by kernel_rfl) (by kernel_rfl) (by kernel_rfl) 5 (by kernel_rfl) (by kernel_rfl) (by kernel_rfl) (fun _ _ _ h => h) (Or.inl ⟨by rfl, ?_⟩) hS ?_
    rotate_left
    · intro w' hSw
      (try dsimp only at hSw)
      go_simp
      all_goals with_reducible rfl
    try simp only [Act.put, List.setIfInBounds_toArray, List.set_cons_zero, List.set_cons_succ]
    refine AnyL.take (i := 6) (v := ?_) rfl (by kernel_rfl) (by kernel_rfl) (by kernel_rfl) 6 (by kernel_rfl) (by kernel_rfl) (by kernel_rfl) (fun _ _ _ h => h) (Or.inl ⟨by rfl, ?_⟩) hS ?_
    rotate_left
    · intro w' hSw
      (try dsimp only at hSw)
      go_simp
      all_goals with_reducible rfl
    try simp only [Act.put, List.setIfInBounds_toArray, List.set_cons_zero, List.set_cons_succ]
    refine AnyL.take (i := 7) (v := ?_) rfl (by kernel_rfl) (by kernel_rfl) (by kernel_rfl) 7 (by kernel_rfl) (by kernel_rfl) (by kernel_rfl) (fun _ _ _ h => h) (Or.inl ⟨by rfl, ?_⟩) hS ?_
    rotate_left
    · intro w' hSw
      (try dsimp only at hSw)
      go_simp
      all_goals with_reducible rfl
    try simp only [Act.put, List.setIfInBounds_toArray, List.set_cons_zero, List.set_cons_succ]
    refine AnyL.take (i := 8) (v := ?_) rfl (by kernel_rfl) (by kernel_rfl) (by kernel_rfl) 8 (by kernel_rfl) (by kernel_rfl) (by kernel_rfl) (fun _ _ _ h => h) (Or.inl ⟨by rfl, ?_⟩) hS ?_
    rotate_left
    · intro w' hSw
      (try dsimp only at hSw)
      go_simp
      all_goals with_reducible rfl
    try simp only [Act.put, List.setIfInBounds_toArray, List.set_cons_zero, List.set_cons_succ]
    refine AnyL.take (i := 9) (v := ?_) rfl (by kernel_rfl) (by kernel_rfl) (by kernel_rfl) 9 (by kernel_rfl) (by kernel_rfl) (by kernel_rfl) (fun _ _ _ h => h) (Or.inl ⟨by rfl, ?_⟩) hS ?_
    rotate_left
    · intro w' hSw
      (try dsimp only at hSw)
      go_simp
      all_goals with_reducible rfl
    try simp only [Act.put, List.setIfInBounds_toArray, List.set_cons_zero, List.set_cons_succ]
    refine AnyL.take (i := 10) (v := ?_) rfl (by kernel_rfl) (by kernel_rfl) (by kernel_rfl) 10 (by kernel_rfl) (by kernel_rfl) (by kernel_rfl) (fun _ _ _ h => h) (Or.inl ⟨by rfl, ?_⟩) hS ?_
    rotate_left
    · intro w' hSw
      (try dsimp only at hSw)
      go_simp
      all_goals with_reducible rfl
    try simp only [Act.put, List.setIfInBounds_toArray, List.set_cons_zero, List.set_cons_succ]
    refine AnyL.take (i := 11) (v := ?_) rfl (by kernel_rfl) (by kernel_rfl) (by kernel_rfl) 11 (by kernel_rfl) (by kernel_rfl) (by kernel_rfl) (fun _ _ _ h => h) (Or.inl ⟨by rfl, ?_⟩) hS ?_
    rotate_left
    · intro w' hSw
      (try dsimp only at hSw)
      go_simp
      all_goals with_reducible rfl
    try simp only [Act.put, List.setIfInBounds_toArray, List.set_cons_zero, List.set_cons_succ]
    refine AnyL.one (i := 12) rfl (by kernel_rfl) (fun K hK => ?_)
    go_simp
    refine hK.out _ _ (Or.inr (by (try dsimp only); go_keep)) ?_
    clear hK K
    try simp only [Act.put, List.setIfInBounds_toArray, List.set_cons_zero, List.set_cons_succ]
    refine AnyL.one (i := 13) rfl (by kernel_rfl) (fun K hK => ?_)
    refine step_known rfl (exec_append (.tmp 182) (.tmp 190) 26 26 rfl ?_ ?_ HA.out) ?_
    · simp [Act.eval, Act.put]
    · simp [Act.eval, Act.put]
    refine hK.out _ _ (Or.inr hS14) ?_
    clear hK K
    have hS2 : ((fun w' => w'.cell? ⟨cp, 0, none⟩ = some ce ∧ w'.cell? ⟨p, 0, none⟩ = some (.slice (some ⟨eg, 0, none⟩) es.length ecap) ∧ w'.cell? ⟨eg, i * 2, none⟩ = some (.string ms) ∧ w'.cell? ⟨eg, i * 2 + 1, none⟩ = some (.int .u32 mr)) : World → Prop) w1 := hS14
    try simp only [Act.put, List.setIfInBounds_toArray, List.set_cons_zero, List.set_cons_succ]
    refine AnyL.take (i := 14) (v := ?_) rfl (by kernel_rfl) (by kernel_rfl) (by kernel_rfl) 15 (by kernel_rfl) (by kernel_rfl) (by kernel_rfl) (fun _ _ _ h => h) (Or.inl ⟨by rfl, ?_⟩) hS2 ?_
    rotate_left
    · intro w' hSw
      (try dsimp only at hSw)
      go_simp
      all_goals with_reducible rfl
    try simp only [Act.put, List.setIfInBounds_toArray, List.set_cons_zero, List.set_cons_succ]
    refine AnyL.take (i := 15) (v := ?_) rfl (by kernel_rfl) (by kernel_rfl) (by kernel_rfl) 15 (by kernel_rfl) (by kernel_rfl) (by kernel_rfl) (fun _ _ _ h => h) (Or.inl ⟨by rfl, ?_⟩) hS2 ?_
    rotate_left
    · intro w' hSw
      (try dsimp only at hSw)
      go_simp
      all_goals with_reducible rfl
    try simp only [Act.put, List.setIfInBounds_toArray, List.set_cons_zero, List.set_cons_succ]
    refine AnyL.one (i := 16) rfl (by kernel_rfl) (fun K hK => ?_)
    go_simp
    refine hK.out _ _ (Or.inl rfl) ?_
    clear hK K hS hS2
    refine AnyL.done (by kernel_rfl) ?_ _
    clear a1 a2 a3 a5 a6 a7 a8 a9 l1 l2 l3 l4 HA c3 f3 hS14
    obtain ⟨wd, hwd⟩ : ∃ wd, wd = w1.setCell ⟨cp, 0, none⟩ (.slice (some ⟨g1, 0, none⟩) x1 c1) := ⟨_, rfl⟩
    rw [← hwd] at HK ⊢
    have hcut := HK.out
    clear HK hwd w1
    have n1 := hcut.n1; have n3 := hcut.n3
    simp only at n1 n3
    have a1 := n1.c0; have a3 := n3.c0
    simp only at a1 a3
    obtain ⟨erest, he3, heB⟩ := own_at n1.ents
    obtain ⟨rrest, hr5, hrB⟩ := own_at n3.ents
    obtain ⟨a7, a8⟩ := ent_cell hrB (i := 0) (e := (rs, rr)) (by simp)
    obtain ⟨a5, a6⟩ := ent_cell heB hm
    have f1 := heB.frozen (i * 2); have f2 := heB.frozen (i * 2 + 1)
    simp only [Nat.zero_mul, Nat.zero_add] at a7 a8
    have HG : Hid (Grp w0 bs0 wd.drew [(⟨p, .slice (some ⟨eg, 0, none⟩) es.length ecap, .slice (some ⟨cg, 0, none⟩) ks.length ccap, es⟩, ks), (⟨cp, .slice (some ⟨g1, 0, none⟩) x1 c1, cc, ces ++ [(ms, mr)]⟩, cks), (⟨rp, .slice (some ⟨rg, 0, none⟩) (res.length + 1) rcap, rc, (rs, rr) :: res⟩, o.toList ++ RK)]) := hcut.grown (grown_drew (World.grownBy.refl wd _))
    have hown := hcut.ownAt (A := []) (B := [(⟨cp, .slice (some ⟨g1, 0, none⟩) x1 c1, cc, ces ++ [(ms, mr)]⟩, cks), (⟨rp, .slice (some ⟨rg, 0, none⟩) (res.length + 1) rcap, rc, (rs, rr) :: res⟩, o.toList ++ RK)])
    have HK : Hid _ := setE_node wd.drew p eg ecap _ es ks i rs rr (n1.same fun _ _ => rfl) hown hie
    clear hown n1 n3 hrB hr5 rrest he3 heB erest hcut
    have b6 : (0 : Int) < (res.length : Int) + 1 := by omega
    go_upto_region 15 with fail
    refine region_last (fun w' => w'.cell? ⟨p, 0, none⟩ = some (.slice (some ⟨eg, 0, none⟩) es.length ecap) ∧ w'.cell? ⟨rp, 0, none⟩ = some (.slice (some ⟨rg, 0, none⟩) (res.length + 1) rcap) ∧ w'.cell? ⟨rg, 0, none⟩ = some (.string rs) ∧ w'.cell? ⟨rg, 1, none⟩ = some (.int .u32 rr)) 12 (by kernel_rfl) ?_
    have hS : ((fun w' => w'.cell? ⟨p, 0, none⟩ = some (.slice (some ⟨eg, 0, none⟩) es.length ecap) ∧ w'.cell? ⟨rp, 0, none⟩ = some (.slice (some ⟨rg, 0, none⟩) (res.length + 1) rcap) ∧ w'.cell? ⟨rg, 0, none⟩ = some (.string rs) ∧ w'.cell? ⟨rg, 1, none⟩ = some (.int .u32 rr)) : World → Prop) wd.drew := ⟨a1, a3, a7, a8⟩
    refine AnyL.take (i := 0) (v := ?_) rfl (by kernel_rfl) (by kernel_rfl) (by kernel_rfl) 0 (by kernel_rfl) (by kernel_rfl) (by kernel_rfl) (fun _ _ _ h => h) (Or.inl ⟨by rfl, ?_⟩) hS ?_
    rotate_left
    · intro w' hSw
      (try dsimp only at hSw)
      go_simp
      all_goals with_reducible rfl
    try simp only [Act.put, List.setIfInBounds_toArray, List.set_cons_zero, List.set_cons_succ]
    refine AnyL.take (i := 1) (v := ?_) rfl (by kernel_rfl) (by kernel_rfl) (by kernel_rfl) 1 (by kernel_rfl) (by kernel_rfl) (by kernel_rfl) (fun _ _ _ h => h) (Or.inl ⟨by rfl, ?_⟩) hS ?_
    rotate_left
    · intro w' hSw
      (try dsimp only at hSw)
      go_simp
      all_goals with_reducible rfl
    try simp only [Act.put, List.setIfInBounds_toArray, List.set_cons_zero, List.set_cons_succ]
    refine AnyL.take (i := 2) (v := ?_) rfl (by kernel_rfl) (by kernel_rfl) (by kernel_rfl) 2 (by kernel_rfl) (by kernel_rfl) (by kernel_rfl) (fun _ _ _ h => h) (Or.inl ⟨by rfl, ?_⟩) hS ?_
    rotate_left
    · intro w' hSw
      (try dsimp only at hSw)
      go_simp
      all_goals with_reducible rfl
    try simp only [Act.put, List.setIfInBounds_toArray, List.set_cons_zero, List.set_cons_succ]
    refine AnyL.take (i := 3) (v := ?_) rfl (by kernel_rfl) (by kernel_rfl) (by kernel_rfl) 3 (by kernel_rfl) (by kernel_rfl) (by kernel_rfl) (fun _ _ _ h => h) (Or.inl ⟨by rfl, ?_⟩) hS ?_
    rotate_left
    · intro w' hSw
      (try dsimp only at hSw)
      go_simp
      all_goals with_reducible rfl
    try simp only [Act.put, List.setIfInBounds_toArray, List.set_cons_zero, List.set_cons_succ]
    refine AnyL.take (i := 4) (v := ?_) rfl (by kernel_rfl) (by kernel_rfl) (by kernel_rfl) 4 (by kernel_rfl) (by kernel_rfl) (by kernel_rfl) (fun _ _ _ h => h) (Or.inl ⟨by rfl, ?_⟩) hS ?_
    rotate_left
    · intro w' hSw
      (try dsimp only at hSw)
      go_simp
      all_goals with_reducible rfl
    try simp only [Act.put, List.setIfInBounds_toArray, List.set_cons_zero, List.set_cons_succ]
    refine AnyL.take (i := 5) (v := ?_) rfl (by kernel_rfl) (by kernel_rfl) (by kernel_rfl) 5 (by kernel_rfl) (by kernel_rfl) (by kernel_rfl) (fun _ _ _ h => h) (Or.inl ⟨by rfl, ?_⟩) hS ?_
    rotate_left
    · intro w' hSw
      (try dsimp only at hSw)
      go_simp
      all_goals with_reducible rfl
    try simp only [Act.put, List.setIfInBounds_toArray, List.set_cons_zero, List.set_cons_succ]
    refine AnyL.take (i := 6) (v := ?_) rfl (by kernel_rfl) (by kernel_rfl) (by kernel_rfl) 6 (by kernel_rfl) (by kernel_rfl) (by kernel_rfl) (fun _ _ _ h => h) (Or.inl ⟨by rfl, ?_⟩) hS ?_
    rotate_left
    · intro w' hSw
      (try dsimp only at hSw)
      go_simp
      all_goals with_reducible rfl
    try simp only [Act.put, List.setIfInBounds_toArray, List.set_cons_zero, List.set_cons_succ]
    refine AnyL.take (i := 7) (v := ?_) rfl (by kernel_rfl) (by kernel_rfl) (by kernel_rfl) 7 (by kernel_rfl) (by kernel_rfl) (by kernel_rfl) (fun _ _ _ h => h) (Or.inl ⟨by rfl, ?_⟩) hS ?_
    rotate_left
    · intro w' hSw
      (try dsimp only at hSw)
      go_simp
      all_goals with_reducible rfl
    try simp only [Act.put, List.setIfInBounds_toArray, List.set_cons_zero, List.set_cons_succ]
    refine AnyL.take (i := 8) (v := ?_) rfl (by kernel_rfl) (by kernel_rfl) (by kernel_rfl) 8 (by kernel_rfl) (by kernel_rfl) (by kernel_rfl) (fun _ _ _ h => h) (Or.inl ⟨by rfl, ?_⟩) hS ?_
    rotate_left
    · intro w' hSw
      (try dsimp only at hSw)
      go_simp
      all_goals with_reducible rfl
    try simp only [Act.put, List.setIfInBounds_toArray, List.set_cons_zero, List.set_cons_succ]
    refine AnyL.take (i := 9) (v := ?_) rfl (by kernel_rfl) (by kernel_rfl) (by kernel_rfl) 9 (by kernel_rfl) (by kernel_rfl) (by kernel_rfl) (fun _ _ _ h => h) (Or.inl ⟨by rfl, ?_⟩) hS ?_
    rotate_left
    · intro w' hSw
      (try dsimp only at hSw)
      go_simp
      all_goals with_reducible rfl
    try simp only [Act.put, List.setIfInBounds_toArray, List.set_cons_zero, List.set_cons_succ]
    refine AnyL.take (i := 10) (v := ?_) rfl (by kernel_rfl) (by kernel_rfl) (by kernel_rfl) 10 (by kernel_rfl) (by kernel_rfl) (by kernel_rfl) (fun _ _ _ h => h) (Or.inl ⟨by rfl, ?_⟩) hS ?_
    rotate_left
    · intro w' hSw
      (try dsimp only at hSw)
      go_simp
      all_goals with_reducible rfl
    try simp only [Act.put, List.setIfInBounds_toArray, List.set_cons_zero, List.set_cons_succ]
    refine AnyL.take (i := 11) (v := ?_) rfl (by kernel_rfl) (by kernel_rfl) (by kernel_rfl) 11 (by kernel_rfl) (by kernel_rfl) (by kernel_rfl) (fun _ _ _ h => h) (Or.inl ⟨by rfl, ?_⟩) hS ?_
    rotate_left
    · intro w' hSw
      (try dsimp only at hSw)
      go_simp
      all_goals with_reducible rfl
    try simp only [Act.put, List.setIfInBounds_toArray, List.set_cons_zero, List.set_cons_succ]
    refine AnyL.one (i := 12) rfl (by kernel_rfl) (fun K hK => ?_)
    go_simp
    refine hK.out _ _ (Or.inl rfl) ?_
    clear hK K hS
    refine AnyL.done (by kernel_rfl) ?_ _
    clear a1 a3 a5 a6 a7 a8 f1 f2
    obtain ⟨wc, hwc⟩ : ∃ wc, wc = (wd.drew.setCell ⟨eg, i * 2, none⟩ (.string rs)).setCell ⟨eg, i * 2 + 1, none⟩ (.int .u32 rr) := ⟨_, rfl⟩
    rw [World.setCell_drew, World.setCell_drew] at hwc
    rw [← hwc]
    have hcut : Grp w0 bs0 wc [(⟨p, .slice (some ⟨eg, 0, none⟩) es.length ecap, .slice (some ⟨cg, 0, none⟩) ks.length ccap, es.set i (rs, rr)⟩, ks), (⟨cp, .slice (some ⟨g1, 0, none⟩) x1 c1, cc, ces ++ [(ms, mr)]⟩, cks), (⟨rp, .slice (some ⟨rg, 0, none⟩) (res.length + 1) rcap, rc, (rs, rr) :: res⟩, o.toList ++ RK)] := by
      rw [hwc, ← World.setCell_drew, ← World.setCell_drew]
      exact Grp.frame (A := []) (B := [(⟨cp, .slice (some ⟨g1, 0, none⟩) x1 c1, cc, ces ++ [(ms, mr)]⟩, cks), (⟨rp, .slice (some ⟨rg, 0, none⟩) (res.length + 1) rcap, rc, (rs, rr) :: res⟩, o.toList ++ RK)]) HG.out HK.out
    clear HG HK hwc wd
    have n3 := hcut.n3
    simp only at n3
    have a3 := n3.c0
    simp only at a3
    have l2 : rp < wc.heap.size := n3.node.lt
    have hown := hcut.ownAt (A := [(⟨p, .slice (some ⟨eg, 0, none⟩) es.length ecap, .slice (some ⟨cg, 0, none⟩) ks.length ccap, es.set i (rs, rr)⟩, ks), (⟨cp, .slice (some ⟨g1, 0, none⟩) x1 c1, cc, ces ++ [(ms, mr)]⟩, cks)]) (B := [])
    have hC := delE_node wc rp _ _ ((rs, rr) :: res) (o.toList ++ RK) 0 1 n3 hown (by omega) (by simp)
    simp only [List.take_zero, List.drop_succ_cons, List.drop_zero, List.nil_append] at hC
    rw [show ((0 : Nat) : Int) = 0 from rfl, show ((1 : Nat) : Int) = 1 from rfl] at hC
    have HC := hidC hC
    have HG : Hid (Grp w0 bs0 wc [(⟨p, .slice (some ⟨eg, 0, none⟩) es.length ecap, .slice (some ⟨cg, 0, none⟩) ks.length ccap, es.set i (rs, rr)⟩, ks), (⟨cp, .slice (some ⟨g1, 0, none⟩) x1 c1, cc, ces ++ [(ms, mr)]⟩, cks), (⟨rp, .slice (some ⟨rg, 0, none⟩) (res.length + 1) rcap, rc, (rs, rr) :: res⟩, o.toList ++ RK)]) := hcut
    clear hC hown n3 hcut
    go_upto_region 17 with (go_at_call 62; refine HC.out.mono ?_; rintro e1 w1 ⟨g2, x2, c2, rfl, c3, f3, kk⟩)
    obtain ⟨wd, hwd⟩ : ∃ wd, wd = w1.setCell ⟨rp, 0, none⟩ (.slice (some ⟨g2, 0, none⟩) x2 c2) := ⟨_, rfl⟩
    rw [← hwd] at kk ⊢
    have gg : Grp w0 bs0 wd [(⟨p, .slice (some ⟨eg, 0, none⟩) es.length ecap, .slice (some ⟨cg, 0, none⟩) ks.length ccap, es.set i (rs, rr)⟩, ks), (⟨cp, .slice (some ⟨g1, 0, none⟩) x1 c1, cc, ces ++ [(ms, mr)]⟩, cks), (⟨rp, .slice (some ⟨g2, 0, none⟩) x2 c2, rc, res⟩, o.toList ++ RK)] := Grp.frame (A := [(⟨p, .slice (some ⟨eg, 0, none⟩) es.length ecap, .slice (some ⟨cg, 0, none⟩) ks.length ccap, es.set i (rs, rr)⟩, ks), (⟨cp, .slice (some ⟨g1, 0, none⟩) x1 c1, cc, ces ++ [(ms, mr)]⟩, cks)]) (B := []) HG.out kk
    clear a3 l2 HC HG c3 f3 kk hwd w1
    have n2 := gg.n2; have n3 := gg.n3
    simp only at n2 n3
    have a4 := n2.c1; have a3 := n3.c1
    simp only at a3 a4
    cases o with
    | none =>
      have hz := ho rfl
      subst hz
      have hlc := n3.leaf rfl
      simp only at hlc
      subst hlc
      have hnil := fun w' => run_neq_slice_nil_any (P := Try.prog) w' 87 64 none 0 0 0 0 Try.underlying87
      go_wp2
      go_ret
      exact ⟨rfl, .slice (some ⟨eg, 0, none⟩) es.length ecap, .slice (some ⟨g2, 0, none⟩) x2 c2, .slice none 0 0, .slice (some ⟨g1, 0, none⟩) x1 c1, cc, gg⟩
    | some k =>
      have hz := ho2 (by simp)
      obtain ⟨hg, hcap, hrest, hlc, hh1, hh2, hh3, hhB⟩ := n3.kidsOpen (by simp)
      simp only [Option.toList_some, List.cons_append, List.nil_append, List.length_cons] at hlc hh1 hh2 hh3 hhB gg n3 ⊢
      subst hlc
      have hnil := fun w' => run_neq_slice_nil_any (P := Try.prog) w' 87 64 (some ⟨hg, 0, none⟩) (RK.length + 1) hcap 0 0 Try.underlying87
      have a5 := kid_cell hhB (i := 0) (p := k) (by simp)
      unfold ptr at a5
      have l2 : rp < wd.heap.size := n3.node.lt
      have l3 : cp < wd.heap.size := n2.node.lt
      have b8 : (0 : Int) < (RK.length : Int) + 1 := by omega
      have hW : wd.grownBy (wd.alloc (Obj.cells #[Value.pointer (some ⟨k, 0, none⟩)] 64)).drew none := grown_drew (World.grownBy_alloc _ _ _)
      have hy : BlockAt (wd.alloc (Obj.cells #[Value.pointer (some ⟨k, 0, none⟩)] 64)).drew wd.heap.size 64 [ptr k] := blockAt_new wd 64 [ptr k]
      have gW := gg.grown hW
      have m2 := gW.n2
      simp only at m2
      have hown := gW.ownAt (A := [(⟨p, .slice (some ⟨eg, 0, none⟩) es.length ecap, .slice (some ⟨cg, 0, none⟩) ks.length ccap, es.set i (rs, rr)⟩, ks)]) (B := [(⟨rp, .slice (some ⟨g2, 0, none⟩) x2 c2, .slice (some ⟨hg, 0, none⟩) (RK.length + 1) hcap, res⟩, k :: RK)])
      obtain ⟨a3', x3, c3', w1, hr, c3, f3, kk⟩ := appC_node (wd.alloc (Obj.cells #[Value.pointer (some ⟨k, 0, none⟩)] 64)).drew cp _ cc (ces ++ [(ms, mr)]) cks (.slice (some ⟨wd.heap.size, 0, none⟩) 1 1) [k] m2 hown (by omega) (by simp) (.inr ⟨wd.heap.size, 1, [], rfl, by simp, by simpa using hy⟩)
      have HA : Hid ((Builtin.append_ #[87, 87] 87 #[cc, .slice (some ⟨wd.heap.size, 0, none⟩) 1 1]).run Try.prog (wd.alloc (Obj.cells #[Value.pointer (some ⟨k, 0, none⟩)] 64)).drew = .ok (.slice a3' x3 c3') w1) := hr
      have HK : Hid (Grp w0 bs0 (w1.setCell ⟨cp, 1, none⟩ (.slice a3' x3 c3')) [(⟨p, .slice (some ⟨eg, 0, none⟩) es.length ecap, .slice (some ⟨cg, 0, none⟩) ks.length ccap, es.set i (rs, rr)⟩, ks), (⟨cp, .slice (some ⟨g1, 0, none⟩) x1 c1, .slice a3' x3 c3', ces ++ [(ms, mr)]⟩, cks ++ [k]), (⟨rp, .slice (some ⟨g2, 0, none⟩) x2 c2, .slice (some ⟨hg, 0, none⟩) (RK.length + 1) hcap, res⟩, k :: RK)]) := Grp.frame (A := [(⟨p, .slice (some ⟨eg, 0, none⟩) es.length ecap, .slice (some ⟨cg, 0, none⟩) ks.length ccap, es.set i (rs, rr)⟩, ks)]) (B := [(⟨rp, .slice (some ⟨g2, 0, none⟩) x2 c2, .slice (some ⟨hg, 0, none⟩) (RK.length + 1) hcap, res⟩, k :: RK)]) gW kk
      have l4 : hg < wd.heap.size := hhB.lt
      have hS18 : (fun w' => w'.cell? ⟨cp, 1, none⟩ = some cc ∧ w'.cell? ⟨rp, 1, none⟩ = some (.slice (some ⟨hg, 0, none⟩) (RK.length + 1) hcap) ∧ w'.cell? ⟨hg, 0, none⟩ = some (.pointer (some ⟨k, 0, none⟩))) w1 := by
        have m3 := gW.n3
        simp only at m3
        have hap := own_apart (A := [(⟨p, .slice (some ⟨eg, 0, none⟩) es.length ecap, .slice (some ⟨cg, 0, none⟩) ks.length ccap, es.set i (rs, rr)⟩, ks)]) (B := []) (C := []) gW
        obtain ⟨r2, _, hB2⟩ := own_at m3.kids
        have q1 : w1.heap[rp]? = _ := grp_back kk (b := rp) (by rw [owns_one]; exact fun h => hap rp h (by simp [Hd.own])) m3.node.lt
        have q2 : w1.heap[hg]? = _ := grp_back kk (b := hg) (by rw [owns_one]; exact fun h => hap hg h (by simp [Hd.own, Value.ownBlock])) hB2.lt
        refine ⟨c3, ?_, ?_⟩
        · rw [(m3.node.same q1).cell]; rfl
        · exact kid_cell (hB2.same q2) (i := 0) (p := k) (by simp)
      clear hr kk hown m2 gW hy hW n2 n3 hhB hh3 hrest gg
      go_upto_region 18 with fail
      refine region_last (fun w' => w'.cell? ⟨cp, 1, none⟩ = some cc ∧ w'.cell? ⟨rp, 1, none⟩ = some (.slice (some ⟨hg, 0, none⟩) (RK.length + 1) hcap) ∧ w'.cell? ⟨hg, 0, none⟩ = some (.pointer (some ⟨k, 0, none⟩))) 15 (by kernel_rfl) ?_
      have hS : ((fun w' => w'.cell? ⟨cp, 1, none⟩ = some cc ∧ w'.cell? ⟨rp, 1, none⟩ = some (.slice (some ⟨hg, 0, none⟩) (RK.length + 1) hcap) ∧ w'.cell? ⟨hg, 0, none⟩ = some (.pointer (some ⟨k, 0, none⟩))) : World → Prop) wd.drew := ⟨a4, a3, a5⟩
      refine AnyL.take (i := 0) (v := ?_) rfl (by kernel_rfl) (by kernel_rfl) (by kernel_rfl) 0 (by kernel_rfl) (by kernel_rfl) (by kernel_rfl) (fun _ _ _ h => h) (Or.inl ⟨by rfl, ?_⟩) hS ?_
      rotate_left
      · intro w' hSw
        (try dsimp only at hSw)
        go_simp
        all_goals with_reducible rfl
      try simp only [Act.put, List.setIfInBounds_toArray, List.set_cons_zero, List.set_cons_succ]
      refine AnyL.take (i := 1) (v := ?_) rfl (by kernel_rfl) (by kernel_rfl) (by kernel_rfl) 1 (by kernel_rfl) (by kernel_rfl) (by kernel_rfl) (fun _ _ _ h => h) (Or.inl ⟨by rfl, ?_⟩) hS ?_
      rotate_left
      · intro w' hSw
        (try dsimp only at hSw)
        go_simp
        all_goals with_reducible rfl
      try simp only [Act.put, List.setIfInBounds_toArray, List.set_cons_zero, List.set_cons_succ]
      refine AnyL.take (i := 2) (v := ?_) rfl (by kernel_rfl) (by kernel_rfl) (by kernel_rfl) 2 (by kernel_rfl) (by kernel_rfl) (by kernel_rfl) (fun _ _ _ h => h) (Or.inl ⟨by rfl, ?_⟩) hS ?_
      rotate_left
      · intro w' hSw
        (try dsimp only at hSw)
        go_simp
        all_goals with_reducible rfl
      try simp only [Act.put, List.setIfInBounds_toArray, List.set_cons_zero, List.set_cons_succ]
      refine AnyL.take (i := 3) (v := ?_) rfl (by kernel_rfl) (by kernel_rfl) (by kernel_rfl) 3 (by kernel_rfl) (by kernel_rfl) (by kernel_rfl) (fun _ _ _ h => h) (Or.inl ⟨by rfl, ?_⟩) hS ?_
      rotate_left
      · intro w' hSw
        (try dsimp only at hSw)
        go_simp
        all_goals with_reducible rfl
      try simp only [Act.put, List.setIfInBounds_toArray, List.set_cons_zero, List.set_cons_succ]
      refine AnyL.take (i := 4) (v := ?_) rfl (by kernel_rfl) (by kernel_rfl) (by kernel_rfl) 4 (by kernel_rfl) (by kernel_rfl) (by kernel_rfl) (fun _ _ _ h => h) (Or.inl ⟨by rfl, ?_⟩) hS ?_
      rotate_left
      · intro w' hSw
        (try dsimp only at hSw)
        go_simp
        all_goals with_reducible rfl
      try simp only [Act.put, List.setIfInBounds_toArray, List.set_cons_zero, List.set_cons_succ]
      refine AnyL.take (i := 5) (v := ?_) rfl (by kernel_rfl) (by kernel_rfl) (by kernel_rfl) 5 (by kernel_rfl) (by kernel_rfl) (by kernel_rfl) (fun _ _ _ h => h) (Or.inl ⟨by rfl, ?_⟩) hS ?_
      rotate_left
      · intro w' hSw
        (try dsimp only at hSw)
        go_simp
        all_goals with_reducible rfl
      try simp only [Act.put, List.setIfInBounds_toArray, List.set_cons_zero, List.set_cons_succ]
      refine AnyL.take (i := 6) (v := ?_) rfl (by kernel_rfl) (by kernel_rfl) (by kernel_rfl) 6 (by kernel_rfl) (by kernel_rfl) (by kernel_rfl) (fun _ _ _ h => h) (Or.inl ⟨by rfl, ?_⟩) hS ?_
      rotate_left
      · intro w' hSw
        (try dsimp only at hSw)
        go_simp
        all_goals with_reducible rfl
      try simp only [Act.put, List.setIfInBounds_toArray, List.set_cons_zero, List.set_cons_succ]
      refine AnyL.take (i := 7) (v := ?_) rfl (by kernel_rfl) (by kernel_rfl) (by kernel_rfl) 7 (by kernel_rfl) (by kernel_rfl) (by kernel_rfl) (fun _ _ _ h => h) (Or.inl ⟨by rfl, ?_⟩) hS ?_
      rotate_left
      · intro w' hSw
        (try dsimp only at hSw)
        go_simp
        all_goals with_reducible rfl
      try simp only [Act.put, List.setIfInBounds_toArray, List.set_cons_zero, List.set_cons_succ]
      refine AnyL.take (i := 8) (v := ?_) rfl (by kernel_rfl) (by kernel_rfl) (by kernel_rfl) 8 (by kernel_rfl) (by kernel_rfl) (by kernel_rfl) (fun _ _ _ h => h) (Or.inl ⟨by rfl, ?_⟩) hS ?_
      rotate_left
      · intro w' hSw
        (try dsimp only at hSw)
        go_simp
        all_goals with_reducible rfl
      try simp only [Act.put, List.setIfInBounds_toArray, List.set_cons_zero, List.set_cons_succ]
      refine AnyL.take (i := 9) (v := ?_) rfl (by kernel_rfl) (by kernel_rfl) (by kernel_rfl) 9 (by kernel_rfl) (by kernel_rfl) (by kernel_rfl) (fun _ _ _ h => h) (Or.inl ⟨by rfl, ?_⟩) hS ?_
      rotate_left
      · intro w' hSw
        (try dsimp only at hSw)
        go_simp
        all_goals with_reducible rfl
      try simp only [Act.put, List.setIfInBounds_toArray, List.set_cons_zero, List.set_cons_succ]
      refine AnyL.take (i := 10) (v := ?_) rfl (by kernel_rfl) (by kernel_rfl) (by kernel_rfl) 10 (by kernel_rfl) (by kernel_rfl) (by kernel_rfl) (fun _ _ _ h => h) (Or.inl ⟨by rfl, ?_⟩) hS ?_
      rotate_left
      · intro w' hSw
        (try dsimp only at hSw)
        go_simp
        all_goals with_reducible rfl
      try simp only [Act.put, List.setIfInBounds_toArray, List.set_cons_zero, List.set_cons_succ]
      refine AnyL.one (i := 11) rfl (by kernel_rfl) (fun K hK => ?_)
      go_simp
      refine hK.out _ _ (Or.inr (by (try dsimp only); go_keep)) ?_
      clear hK K
      try simp only [Act.put, List.setIfInBounds_toArray, List.set_cons_zero, List.set_cons_succ]
      refine AnyL.one (i := 12) rfl (by kernel_rfl) (fun K hK => ?_)
      refine step_known rfl (exec_append (.tmp 223) (.tmp 230) 87 87 rfl ?_ ?_ HA.out) ?_
      · simp [Act.eval, Act.put]
      · simp [Act.eval, Act.put]
      refine hK.out _ _ (Or.inr hS18) ?_
      clear hK K
      have hS2 : ((fun w' => w'.cell? ⟨cp, 1, none⟩ = some cc ∧ w'.cell? ⟨rp, 1, none⟩ = some (.slice (some ⟨hg, 0, none⟩) (RK.length + 1) hcap) ∧ w'.cell? ⟨hg, 0, none⟩ = some (.pointer (some ⟨k, 0, none⟩))) : World → Prop) w1 := hS18
      try simp only [Act.put, List.setIfInBounds_toArray, List.set_cons_zero, List.set_cons_succ]
      refine AnyL.take (i := 13) (v := ?_) rfl (by kernel_rfl) (by kernel_rfl) (by kernel_rfl) 14 (by kernel_rfl) (by kernel_rfl) (by kernel_rfl) (fun _ _ _ h => h) (Or.inl ⟨by rfl, ?_⟩) hS2 ?_
      rotate_left
      · intro w' hSw
        (try dsimp only at hSw)
        go_simp
        all_goals with_reducible rfl
      try simp only [Act.put, List.setIfInBounds_toArray, List.set_cons_zero, List.set_cons_succ]
      refine AnyL.take (i := 14) (v := ?_) rfl (by kernel_rfl) (by kernel_rfl) (by kernel_rfl) 14 (by kernel_rfl) (by kernel_rfl) (by kernel_rfl) (fun _ _ _ h => h) (Or.inl ⟨by rfl, ?_⟩) hS2 ?_
      rotate_left
      · intro w' hSw
        (try dsimp only at hSw)
        go_simp
        all_goals with_reducible rfl
      try simp only [Act.put, List.setIfInBounds_toArray, List.set_cons_zero, List.set_cons_succ]
      refine AnyL.one (i := 15) rfl (by kernel_rfl) (fun K hK => ?_)
      go_simp
      refine hK.out _ _ (Or.inl rfl) ?_
      clear hK K hS hS2
      refine AnyL.done (by kernel_rfl) ?_ _
      clear a3 a4 a5 l2 l3 l4 HA c3 f3 hS18
      obtain ⟨we, hwe⟩ : ∃ we, we = w1.setCell ⟨cp, 1, none⟩ (.slice a3' x3 c3') := ⟨_, rfl⟩
      rw [← hwe] at HK ⊢
      have gg := HK.out
      clear HK hwe w1
      have n3 := gg.n3
      simp only at n3
      have a3 := n3.c1
      simp only at a3
      have l2 : rp < we.heap.size := n3.node.lt
      have hown := gg.ownAt (A := [(⟨p, .slice (some ⟨eg, 0, none⟩) es.length ecap, .slice (some ⟨cg, 0, none⟩) ks.length ccap, es.set i (rs, rr)⟩, ks), (⟨cp, .slice (some ⟨g1, 0, none⟩) x1 c1, .slice a3' x3 c3', ces ++ [(ms, mr)]⟩, cks ++ [k])]) (B := [])
      have hC := delC_node we rp _ _ res (k :: RK) 0 1 n3 hown (by omega) (by simp) (by have := List.length_pos_iff.2 hz; simp only [List.length_cons]; omega)
      simp only [List.take_zero, List.drop_succ_cons, List.drop_zero, List.nil_append] at hC
      rw [show ((0 : Nat) : Int) = 0 from rfl, show ((1 : Nat) : Int) = 1 from rfl] at hC
      have HC := hidC hC
      have HG : Hid (Grp w0 bs0 we [(⟨p, .slice (some ⟨eg, 0, none⟩) es.length ecap, .slice (some ⟨cg, 0, none⟩) ks.length ccap, es.set i (rs, rr)⟩, ks), (⟨cp, .slice (some ⟨g1, 0, none⟩) x1 c1, .slice a3' x3 c3', ces ++ [(ms, mr)]⟩, cks ++ [k]), (⟨rp, .slice (some ⟨g2, 0, none⟩) x2 c2, .slice (some ⟨hg, 0, none⟩) (RK.length + 1) hcap, res⟩, k :: RK)]) := gg
      clear hC hown n3 gg
      go_wp2_with (go_at_call 72; refine HC.out.mono ?_; rintro e1 w1 ⟨g4, x4, c4, rfl, c3, f3, kk⟩)
      go_ret
      exact ⟨rfl, _, _, _, _, _, Grp.frame (A := [(⟨p, .slice (some ⟨eg, 0, none⟩) es.length ecap, .slice (some ⟨cg, 0, none⟩) ks.length ccap, es.set i (rs, rr)⟩, ks), (⟨cp, .slice (some ⟨g1, 0, none⟩) x1 c1, .slice a3' x3 c3', ces ++ [(ms, mr)]⟩, cks ++ [k])]) (B := []) HG.out kk⟩
end Go.Proofs.Qxb6601380a
