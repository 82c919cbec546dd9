/-
  split (57): a full child in two.
-/
import Derived.Test.Qxb6601380aIns
import Derived.Test.Qxb6601380aCln
import Derived.Test.Qxb6601380aNod
import Derived.Deep.DeepCutAuto
namespace Go.Proofs.Qxb6601380a
open Go.RowKit

set_option maxHeartbeats 8000000 in
set_option maxRecDepth 100000 in
theorem split_leaf (w0 : World) (bs0 : List Nat) (w : World) (p ve vc es ks : _) (kp ke kes : _) (i : Nat)
    (g : Grp w0 bs0 w [(⟨p, ve, vc, es⟩, ks), (⟨kp, ke, .slice none 0 0, kes⟩, [])])
    (hi : ks[i]? = some kp) (hes : es.length ≤ 100) (hie : i ≤ es.length) (hke : kes.length = 31) (ms mr : _) (hm : kes[15]? = some (ms, mr)) (hks : ks.length ≤ 100) :
    Calls Try.prog 57 #[ptr p, .int .i64 i] w fun e w' => e = .returned (.tuple #[]) ∧ ∃ ve' vc' ke' r re,
      Grp w0 bs0 w' [(⟨p, ve', vc', es.take i ++ (ms, mr) :: es.drop i⟩, ks.take (i + 1) ++ r :: ks.drop (i + 1)), (⟨kp, ke', .slice none 0 0, kes.take 15⟩, []), (⟨r, re, .slice none 0 0, kes.drop 16⟩, [])] := by
  have hil := (List.getElem?_eq_some_iff.1 hi).1
  have n1 : NodeAt w ⟨p, ve, vc, es⟩ ks := g.nodes _ (List.mem_cons_self ..)
  have n2 : NodeAt w ⟨kp, ke, .slice none 0 0, kes⟩ [] := g.nodes _ (List.mem_cons_of_mem _ (List.mem_cons_self ..))
  obtain ⟨cg, ccap, crest, hvc, hc1, hc2, hc3, hcB⟩ := n1.kidsOpen (by omega)
  obtain ⟨kg, kcap, krest, hke2, hk1, hk2, hk3, hkB⟩ := n2.entsOpen (by simp only; omega)
  simp only at hc1 hc2 hc3 hcB hk1 hk2 hk3 hkB hvc hke2
  subst hvc
  rw [hke] at hke2 hk1 hk3
  subst hke2
  have a1 := n1.c0; have a2 := n1.c1; have a3 := n2.c0; have a4 := n2.c1
  have a5 := kid_cell hcB hi
  simp only at a1 a2 a3 a4 a5
  unfold ptr at a5
  have b1 : (i : Int) < (ks.length : Int) := by omega
  have b2 : ¬ kcap = 16 := by omega
  have hnil := fun w' => run_neq_slice_nil_any (P := Try.prog) w' 87 64 none 0 0 0 0 Try.underlying87
  unfold ptr
  go_enter Try.func57, Try.ntmps57
  go_upto_region 1 with fail
  go_cut [5] (fun v wx => ∃ r re, v = .pointer (some ⟨r, 0, none⟩) ∧ Grp w0 bs0 wx
    [(⟨p, ve, .slice (some ⟨cg, 0, none⟩) ks.length ccap, es⟩, ks), (⟨kp, .slice (some ⟨kg, 0, none⟩) 31 kcap, .slice none 0 0, kes⟩, []), (⟨r, re, .slice none 0 0, kes.drop 16⟩, [])])
  case first =>
    go_wp2_with (go_at_call 70; refine (clnE kg 32 15 (kcap - 16) (ecells (kes.drop 16)) w (by simp [ecells_length, hke]) (by exact half_cells (i := 16) hkB) (ecells_one _) (by omega) hkB.lt).mono ?_; rintro e1 w1 ⟨v1, rfl, h1, h2⟩; obtain ⟨g1, c1, rfl⟩ := own_some h1 (by decide))
    go_meet
    refine ⟨_, .slice (some ⟨g1, 0, none⟩) 15 c1, rfl, ?_⟩
    have h1' : w1.ownsRow w.heap.size 36 2 (.slice (some ⟨g1, 0, none⟩) 15 c1) (kes.drop 16).length (ecells (kes.drop 16)) := by simpa [hke] using h1
    exact Grp.frame (A := [(⟨p, ve, .slice (some ⟨cg, 0, none⟩) ks.length ccap, es⟩, ks), (⟨kp, .slice (some ⟨kg, 0, none⟩) 31 kcap, .slice none 0 0, kes⟩, [])]) (M := []) (B := []) g (one_new h2 h1')
  case rest =>
    obtain ⟨r, re, rfl, g1⟩ := hcut
    clear n1 n2 hcB hkB a1 a2 a3 a4 a5 g hk3 krest hc3 crest
    have n1 : NodeAt wc ⟨p, ve, .slice (some ⟨cg, 0, none⟩) ks.length ccap, es⟩ ks := g1.nodes _ (List.mem_cons_self ..)
    have n2 : NodeAt wc ⟨kp, .slice (some ⟨kg, 0, none⟩) 31 kcap, .slice none 0 0, kes⟩ [] := g1.nodes _ (List.mem_cons_of_mem _ (List.mem_cons_self ..))
    obtain ⟨krest, hk3, hkB⟩ := own_at n2.ents
    have a1 := n1.c0; have a2 := n1.c1; have a3 := n2.c0; have a4 := n2.c1
    obtain ⟨a6, a7⟩ := ent_cell hkB hm
    simp only at a1 a2 a3 a4
    simp only [Nat.reduceMul, Nat.reduceAdd] at a6 a7
    go_upto_region 4 with fail
    go_cut [6] (fun v wx => ∃ M, v = .pointer (some ⟨M, 0, none⟩) ∧ BlockAt wx M 36 [.string ms, .int .u32 mr] ∧ M ∉ owns [(⟨p, ve, .slice (some ⟨cg, 0, none⟩) ks.length ccap, es⟩, ks), (⟨kp, .slice (some ⟨kg, 0, none⟩) 31 kcap, .slice none 0 0, kes⟩, []), (⟨r, re, .slice none 0 0, kes.drop 16⟩, [])] ∧
      Grp w0 bs0 wx [(⟨p, ve, .slice (some ⟨cg, 0, none⟩) ks.length ccap, es⟩, ks), (⟨kp, .slice (some ⟨kg, 0, none⟩) 31 kcap, .slice none 0 0, kes⟩, []), (⟨r, re, .slice none 0 0, kes.drop 16⟩, [])])
    case first =>
      go_wp2
      go_meet
      exact ⟨_, rfl, blockAt_new wc 36 [.string ms, .int .u32 mr], fun hm => Nat.lt_irrefl _ (g1.lt _ hm), g1.grown (World.grownBy_alloc _ _ _)⟩
    case rest =>
      obtain ⟨M, rfl, hM, hMo, g2⟩ := hcut
      clear n1 n2 hkB a1 a2 a3 a4 a6 a7 g1 hk3 krest
      have n1 : NodeAt wc ⟨p, ve, .slice (some ⟨cg, 0, none⟩) ks.length ccap, es⟩ ks := g2.nodes _ (List.mem_cons_self ..)
      have n2 : NodeAt wc ⟨kp, .slice (some ⟨kg, 0, none⟩) 31 kcap, .slice none 0 0, kes⟩ [] := g2.nodes _ (List.mem_cons_of_mem _ (List.mem_cons_self ..))
      obtain ⟨krest, hk3, hkB⟩ := own_at n2.ents
      have a1 := n1.c0; have a2 := n1.c1; have a3 := n2.c0; have a4 := n2.c1; have f3 := n2.f 0
      simp only at a1 a2 a3 a4 f3
      go_upto_region 5 with fail
      go_cut [] (fun wx => ∃ ke', BlockAt wx M 36 [.string ms, .int .u32 mr] ∧ M ∉ owns [(⟨p, ve, .slice (some ⟨cg, 0, none⟩) ks.length ccap, es⟩, ks), (⟨kp, ke', .slice none 0 0, kes.take 15⟩, []), (⟨r, re, .slice none 0 0, kes.drop 16⟩, [])] ∧
        Grp w0 bs0 wx [(⟨p, ve, .slice (some ⟨cg, 0, none⟩) ks.length ccap, es⟩, ks), (⟨kp, ke', .slice none 0 0, kes.take 15⟩, []), (⟨r, re, .slice none 0 0, kes.drop 16⟩, [])])
      case first =>
        have hown := g2.ownAt (A := [(⟨p, ve, .slice (some ⟨cg, 0, none⟩) ks.length ccap, es⟩, ks)]) (B := [(⟨r, re, .slice none 0 0, kes.drop 16⟩, [])])
        have hne := (own_ne hown).1
        go_region_with (go_at_call 62; refine (delE_some kg 31 kcap 15 31 (ecells kes) krest wc.drew (by rw [ecells_length, hke]) (by decide) (by decide) hk1 hk2 (by rw [hk3, hke]) (ecells_one _) (by exact hkB)).mono ?_; rintro e1 w1 ⟨rfl, h1, h2⟩; have hBk := BlockAt.grown (w := wc.drew) n2.node h2 hne; have c3 := hBk.cell 0; have f3 := hBk.frozen 0)
        all_goals
          go_wp2_with fail
          go_meet
          refine ⟨.slice (some ⟨kg, 0, none⟩) 15 kcap, ?_⟩
          have K : Kept wc.drew w1 (.slice (some ⟨kg, 0, none⟩) 31 kcap) (.slice (some ⟨kg, 0, none⟩) 15 kcap) := ⟨h2, fun _ h => .inl h⟩
          rw [ecells_take, ecells_drop, ← ecells_app] at h1
          have h1' : w1.ownsRow 0 36 2 (.slice (some ⟨kg, 0, none⟩) 15 kcap) (kes.take 15).length (ecells (kes.take 15)) := by simpa [hke, List.drop_eq_nil_of_le] using h1
          have k := one_ents (n2.same (w' := wc.drew) fun _ _ => rfl) hown K h1'
          obtain ⟨q1, q2, q3⟩ := step_frame (A := [(⟨p, ve, .slice (some ⟨cg, 0, none⟩) ks.length ccap, es⟩, ks)]) (B := [(⟨r, re, .slice none 0 0, kes.drop 16⟩, [])]) (g2.grown (grown_drew (World.grownBy.refl wc _))) k (hM.same (w' := wc.drew) rfl) hMo
          exact ⟨q2, q3, q1⟩
      case rest =>
        obtain ⟨ke', hM', hMo', g3⟩ := hcut
        clear n1 n2 hkB a1 a2 a3 a4 f3 g2 hk3 krest hM hMo b2
        have n1 : NodeAt wc ⟨p, ve, .slice (some ⟨cg, 0, none⟩) ks.length ccap, es⟩ ks := g3.nodes _ (List.mem_cons_self ..)
        have n2 : NodeAt wc ⟨kp, ke', .slice none 0 0, kes.take 15⟩ [] := g3.nodes _ (List.mem_cons_of_mem _ (List.mem_cons_self ..))
        have a1 := n1.c0; have a2 := n1.c1; have a4 := n2.c1
        have l1 : p < wc.heap.size := n1.node.lt
        have l2 : M < wc.heap.size := hM'.lt
        have m1 := hM'.cell 0; have m2 := hM'.cell 1
        simp only at a1 a2 a4
        simp only [List.getElem?_cons_zero, List.getElem?_cons_succ] at m1 m2
        go_upto_region 8 with fail
        go_cut [] (fun wx => ∃ ve', Grp w0 bs0 wx [(⟨p, ve', .slice (some ⟨cg, 0, none⟩) ks.length ccap, es.take i ++ (ms, mr) :: es.drop i⟩, ks), (⟨kp, ke', .slice none 0 0, kes.take 15⟩, []), (⟨r, re, .slice none 0 0, kes.drop 16⟩, [])])
        case first =>
          have hown := g3.ownAt (A := []) (B := [(⟨kp, ke', .slice none 0 0, kes.take 15⟩, []), (⟨r, re, .slice none 0 0, kes.drop 16⟩, [])])
          have hne := (own_ne hown).1
          have hW : wc.grownBy (wc.alloc (Obj.cells #[Value.string ms, Value.int IntKind.u32 mr] 36)).drew none := grown_drew (World.grownBy_alloc _ _ _)
          have hy : BlockAt (wc.alloc (Obj.cells #[Value.string ms, Value.int IntKind.u32 mr] 36)).drew wc.heap.size 36 [.string ms, .int .u32 mr] := blockAt_new wc 36 [.string ms, .int .u32 mr]
          obtain ⟨W, hWe⟩ : ∃ W, W = (wc.alloc (Obj.cells #[Value.string ms, Value.int IntKind.u32 mr] 36)).drew := ⟨_, rfl⟩
          rw [← hWe] at hW hy
          have g4 := g3.grown hW
          have n1W : NodeAt W ⟨p, ve, .slice (some ⟨cg, 0, none⟩) ks.length ccap, es⟩ ks := g4.nodes _ (List.mem_cons_self ..)
          have hvb : ve.ownBlock ≠ some wc.heap.size := fun e => Nat.lt_irrefl _ (n1.ents.lt _ e).2
          have HG : Hid (Grp w0 bs0 W [(⟨p, ve, .slice (some ⟨cg, 0, none⟩) ks.length ccap, es⟩, ks), (⟨kp, ke', .slice none 0 0, kes.take 15⟩, []), (⟨r, re, .slice none 0 0, kes.drop 16⟩, [])]) := g4
          clear g3 g4 hMo' hM' n2
          have hcall := insE_some ve es.length i wc.heap.size (ecells es) [.string ms, .int .u32 mr] W n1W.ents hie (by omega) hvb rfl (ecells_one _) (by simp [Value.oneCell']) hy
          have HCALL : Hid (Calls Try.prog 61 #[ve, .int .i64 i, .slice (some ⟨wc.heap.size, 0, none⟩) 1 1] (wc.alloc (Obj.cells #[Value.string ms, Value.int IntKind.u32 mr] 36)).drew fun e w' =>
            ∃ v', e = .returned v' ∧ w'.ownsRow 0 36 2 v' (es.length + 1) ((ecells es).take (i * 2) ++ [.string ms, .int .u32 mr] ++ (ecells es).drop (i * 2)) ∧ Kept W w' ve v') := by rw [← hWe]; exact hcall
          clear hcall
          go_region_with (go_at_call 61; refine HCALL.out.mono ?_; rintro e1 w1 ⟨v1, rfl, h1, K⟩; obtain ⟨g1, c1, rfl⟩ := own_some h1 (by omega); have hBk := n1W.node.grown K.grown hne; have c3 := hBk.cell 0; have f3 := hBk.frozen 0)
          all_goals
            go_wp2_with fail
            go_meet
            refine ⟨.slice (some ⟨g1, 0, none⟩) (es.length + 1) c1, ?_⟩
            have h1' : w1.ownsRow 0 36 2 (.slice (some ⟨g1, 0, none⟩) (es.length + 1) c1) (es.take i ++ (ms, mr) :: es.drop i).length (ecells (es.take i ++ (ms, mr) :: es.drop i)) := by
              rw [ecells_take, ecells_drop] at h1
              have e1 : (es.take i ++ (ms, mr) :: es.drop i).length = es.length + 1 := by simp; omega
              rw [e1, ecells_app]
              simpa [ecells] using h1
            exact Grp.frame (A := []) (M := [(⟨p, ve, .slice (some ⟨cg, 0, none⟩) ks.length ccap, es⟩, ks)]) (B := [(⟨kp, ke', .slice none 0 0, kes.take 15⟩, []), (⟨r, re, .slice none 0 0, kes.drop 16⟩, [])]) HG.out (one_ents n1W hown K h1')
        case rest =>
          obtain ⟨ve', g5⟩ := hcut
          clear n1 n2 a1 a2 a4 m1 m2 l1 l2 g3 hM' hMo'
          have n1 : NodeAt wc ⟨p, ve', .slice (some ⟨cg, 0, none⟩) ks.length ccap, es.take i ++ (ms, mr) :: es.drop i⟩ ks := g5.nodes _ (List.mem_cons_self ..)
          have a1 := n1.c0; have a2 := n1.c1
          have l1 : p < wc.heap.size := n1.node.lt
          simp only at a1 a2
          have hown := g5.ownAt (A := []) (B := [(⟨kp, ke', .slice none 0 0, kes.take 15⟩, []), (⟨r, re, .slice none 0 0, kes.drop 16⟩, [])])
          have hne := (own_ne hown).2.1
          have hW : wc.grownBy (wc.alloc (Obj.cells #[Value.pointer (some ⟨r, 0, none⟩)] 64)) none := World.grownBy_alloc _ _ _
          have hy : BlockAt (wc.alloc (Obj.cells #[Value.pointer (some ⟨r, 0, none⟩)] 64)) wc.heap.size 64 [ptr r] := blockAt_new wc 64 [ptr r]
          obtain ⟨W, hWe⟩ : ∃ W, W = wc.alloc (Obj.cells #[Value.pointer (some ⟨r, 0, none⟩)] 64) := ⟨_, rfl⟩
          rw [← hWe] at hW hy
          have g6 := g5.grown hW
          have n1W : NodeAt W ⟨p, ve', .slice (some ⟨cg, 0, none⟩) ks.length ccap, es.take i ++ (ms, mr) :: es.drop i⟩ ks := g6.nodes _ (List.mem_cons_self ..)
          have hvb : (Value.slice (some ⟨cg, 0, none⟩) ks.length ccap).ownBlock ≠ some wc.heap.size := fun e => Nat.lt_irrefl _ (n1.kids.lt _ e).2
          have hi1 : i + 1 ≤ ks.length := by omega
          have hcall := insC_some (.slice (some ⟨cg, 0, none⟩) ks.length ccap) ks.length (i + 1) wc.heap.size (ks.map ptr) [ptr r] W n1W.kids hi1 (by omega) hvb rfl (ptrs_one _) (by simp [ptr, Value.oneCell']) hy
          have HCALL : Hid (Calls Try.prog 73 #[.slice (some ⟨cg, 0, none⟩) ks.length ccap, .int .i64 ((i : Int) + 1), .slice (some ⟨wc.heap.size, 0, none⟩) 1 1] (wc.alloc (Obj.cells #[Value.pointer (some ⟨r, 0, none⟩)] 64)) fun e w' =>
            ∃ v', e = .returned v' ∧ w'.ownsRow 0 64 1 v' (ks.length + 1) ((ks.map ptr).take (i + 1) ++ [ptr r] ++ (ks.map ptr).drop (i + 1)) ∧ Kept W w' (.slice (some ⟨cg, 0, none⟩) ks.length ccap) v') := by rw [← hWe]; exact hcall
          clear hcall
          go_wp2_with (go_at_call 73; refine HCALL.out.mono ?_; rintro e1 w1 ⟨v1, rfl, h1, K⟩; obtain ⟨g1, c1, rfl⟩ := own_some h1 (by omega); have hBk := n1W.node.grown K.grown hne; have c3 := hBk.cell 1; have f3 := hBk.frozen 1)
          go_end0
          refine ⟨rfl, ve', .slice (some ⟨g1, 0, none⟩) (ks.length + 1) c1, ke', r, re, ?_⟩
          have h1' : w1.ownsRow 0 64 1 (.slice (some ⟨g1, 0, none⟩) (ks.length + 1) c1) (ks.take (i + 1) ++ r :: ks.drop (i + 1)).length ((ks.take (i + 1) ++ r :: ks.drop (i + 1)).map ptr) := by
            have e1 : (ks.take (i + 1) ++ r :: ks.drop (i + 1)).length = ks.length + 1 := by simp; omega
            rw [e1]
            simpa using h1
          exact Grp.frame (A := []) (M := [(⟨p, ve', .slice (some ⟨cg, 0, none⟩) ks.length ccap, es.take i ++ (ms, mr) :: es.drop i⟩, ks)]) (B := [(⟨kp, ke', .slice none 0 0, kes.take 15⟩, []), (⟨r, re, .slice none 0 0, kes.drop 16⟩, [])]) g6 (one_kids n1W hown K h1' (by simp))
end Go.Proofs.Qxb6601380a
