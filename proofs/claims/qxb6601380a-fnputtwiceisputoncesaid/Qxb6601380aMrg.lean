/-
  merge (64): two children and the entry between them in one.
-/
import Derived.Test.Qxb6601380aOpn
import Derived.Deep.DeepCutAuto
import Derived.BigQuiet
namespace Go.Proofs.Qxb6601380a
open Go.RowKit

set_option linter.unusedSimpArgs false in
set_option maxHeartbeats 8000000 in
set_option maxRecDepth 100000 in
theorem merge64 (w0 : World) (bs0 : List Nat) (w : World) (p ve vc es ks : _) (lp le lc les lks : _) (rp re rc res rks : _) (i : Nat)
    (g : Grp w0 bs0 w [(⟨p, ve, vc, es⟩, ks), (⟨lp, le, lc, les⟩, lks), (⟨rp, re, rc, res⟩, rks)])
    (hi : ks[i]? = some lp) (hi1 : ks[i + 1]? = some rp) (ms mr : _) (hm : es[i]? = some (ms, mr)) (hes : es.length ≤ 100) (hks : ks.length ≤ 100)
    (hl1 : les.length ≤ 31) (hr0 : 0 < res.length) (hr1 : res.length ≤ 31) (hl2 : lks.length ≤ 100) (hr2 : rks.length ≤ 100) :
    Calls Try.prog 64 #[ptr p, .int .i64 i] w fun e w' => e = .returned (.tuple #[]) ∧ ∃ ve' vc' le' lc',
      Grp w0 bs0 w' [(⟨p, ve', vc', es.take i ++ es.drop (i + 1)⟩, ks.take (i + 1) ++ ks.drop (i + 2)), (⟨lp, le', lc', les ++ (ms, mr) :: res⟩, lks ++ rks), (⟨rp, re, rc, res⟩, rks)] := by
  have hil := (List.getElem?_eq_some_iff.1 hi1).1
  have hie := (List.getElem?_eq_some_iff.1 hm).1
  have n1 := g.n1; have n2 := g.n2; have n3 := g.n3
  simp only at n1 n2 n3
  obtain ⟨cg, ccap, crest, hvc, hc1, hc2, hc3, hcB⟩ := n1.kidsOpen (by omega)
  obtain ⟨eg, ecap, erest, hve, he1, he2, he3, heB⟩ := n1.entsOpen (by simp only; omega)
  simp only at hc1 hc2 hc3 hcB hvc hve he1 he2 he3 heB
  subst hvc hve
  have a2 := n1.c1
  have a5 := kid_cell hcB hi
  have a6 := kid_cell hcB hi1
  simp only at a2
  unfold ptr at a5 a6
  have b1 : (i : Int) < (ks.length : Int) := by omega
  have b2 : (i : Int) + 1 < (ks.length : Int) := by omega
  have b3 : i ≤ 4000000000 := by omega
  unfold ptr
  go_enter Try.func64, Try.ntmps64
  go_upto_region 0 with fail
  go_cut [4, 5] (fun x y wx => x = .pointer (some ⟨lp, 0, none⟩) ∧ y = .pointer (some ⟨rp, 0, none⟩) ∧ Grp w0 bs0 wx
    [(⟨p, .slice (some ⟨eg, 0, none⟩) es.length ecap, .slice (some ⟨cg, 0, none⟩) ks.length ccap, es⟩, ks), (⟨lp, le, lc, les⟩, lks), (⟨rp, re, rc, res⟩, rks)])
  case first =>
    go_quiet (fail)
    go_wp2_with fail
    go_meet
    exact ⟨rfl, rfl, g.grown (grown_drewN (World.grownBy.refl w _) _)⟩
  case rest =>
    obtain ⟨rfl, rfl, g1⟩ := hcut
    clear n1 n2 n3 hcB heB a2 a5 a6 g hc3 crest he3 erest
    have n1 := g1.n1; have n2 := g1.n2; have n3 := g1.n3
    simp only at n1 n2 n3
    obtain ⟨erest, he3, heB⟩ := own_at n1.ents
    obtain ⟨rg, rcap, rrest, hre, hr3, hr4, hr5, hrB⟩ := n3.entsOpen (by simp only; omega)
    simp only at hre hr3 hr4 hr5 hrB
    subst hre
    have a1 := n1.c0; have a3 := n2.c0; have a4 := n3.c0
    have l1 : p < wc.heap.size := n1.node.lt
    have l2 : lp < wc.heap.size := n2.node.lt
    have l3 : rp < wc.heap.size := n3.node.lt
    obtain ⟨a6, a7⟩ := ent_cell heB hm
    simp only at a1 a3 a4
    -- the appends, ahead
    obtain ⟨i0, hi0, hz0, hz1, hz2⟩ := info_parts Try.info36
    have hW : wc.grownBy (wc.alloc (Obj.cells #[Value.string ms, Value.int IntKind.u32 mr] 36)).drew none := grown_drew (World.grownBy_alloc _ _ _)
    have hy : BlockAt (wc.alloc (Obj.cells #[Value.string ms, Value.int IntKind.u32 mr] 36)).drew wc.heap.size 36 [.string ms, .int .u32 mr] := blockAt_new wc 36 [.string ms, .int .u32 mr]
    obtain ⟨W, hWe⟩ : ∃ W, W = (wc.alloc (Obj.cells #[Value.string ms, Value.int IntKind.u32 mr] 36)).drew := ⟨_, rfl⟩
    rw [← hWe] at hW hy
    have g2 := g1.grown hW
    have m1 := g2.n1; have m2 := g2.n2; have m3 := g2.n3
    simp only at m1 m2 m3
    have hown := g2.ownAt (A := [(⟨p, .slice (some ⟨eg, 0, none⟩) es.length ecap, .slice (some ⟨cg, 0, none⟩) ks.length ccap, es⟩, ks)]) (B := [(⟨rp, .slice (some ⟨rg, 0, none⟩) res.length rcap, rc, res⟩, rks)])
    obtain ⟨v1, w1, hr1', h1, k1, k2⟩ := run_append_sharp (P := Try.prog) W 0 26 26 36 i0 (.agg #[.string ⟨#[]⟩, .int .u32 0]) 2 24 Try.underlying26 hi0 hz0 hz1 hz2 rfl (by decide) le les.length (ecells les) m2.ents ⟨wc.heap.size, 0, none⟩ 1 1 [.string ms, .int .u32 mr] rfl
      (fun q u hq => by rw [Addr.add_lit, Nat.zero_add, hy.cell]; exact hq) (by simp [Value.oneCell']) (by unfold maxLen; omega) (by omega) (Nat.zero_le _)
    have K1 : Kept W w1 le v1 := ⟨k1, k2⟩
    -- the right node's cells stay
    have hsep : ∀ b ∈ (⟨rp, .slice (some ⟨rg, 0, none⟩) res.length rcap, rc, res⟩ : Hd).own, some b ≠ le.ownBlock := fun b hb e => own_apart (A := [(⟨p, .slice (some ⟨eg, 0, none⟩) es.length ecap, .slice (some ⟨cg, 0, none⟩) ks.length ccap, es⟩, ks)]) (B := []) (C := []) g2 b (ve_own (d := ⟨lp, le, lc, les⟩) e.symm) hb
    have m3' : NodeAt w1 ⟨rp, .slice (some ⟨rg, 0, none⟩) res.length rcap, rc, res⟩ rks := m3.same fun b hb => k1.block b (m3.lt b hb) (hsep b hb)
    obtain ⟨rrest1, _, hrB1⟩ := own_at m3'.ents
    obtain ⟨v2, w2, hr2', h2, k3, k4⟩ := run_append_sharp (P := Try.prog) w1 0 26 26 36 i0 (.agg #[.string ⟨#[]⟩, .int .u32 0]) 2 24 Try.underlying26 hi0 hz0 hz1 hz2 rfl (by decide) v1 (les.length + 1) (ecells les ++ [.string ms, .int .u32 mr]) h1 ⟨rg, 0, none⟩ res.length rcap (ecells res) (ecells_length res)
      (fun q u hq => by rw [Addr.add_lit, Nat.zero_add, hrB1.cell, List.getElem?_append_left (List.getElem?_eq_some_iff.1 hq).1]; exact hq) (ecells_one _) (by unfold maxLen; omega) (by omega) (Nat.zero_le _)
    have K2 := K1.trans (⟨k3, k4⟩ : Kept w1 w2 v1 v2)
    have HA1 : Hid ((Builtin.append_ #[26, 26] 26 #[le, .slice (some ⟨wc.heap.size, 0, none⟩) 1 1]).run Try.prog (wc.alloc (Obj.cells #[Value.string ms, Value.int IntKind.u32 mr] 36)).drew = .ok v1 w1) := by rw [← hWe]; exact hr1'
    have HA2 : Hid ((Builtin.append_ #[26, 26] 26 #[v1, .slice (some ⟨rg, 0, none⟩) res.length rcap]).run Try.prog w1 = .ok v2 w2) := hr2'
    have c4 := m3'.c0
    have hBk := m2.node.grown K2.grown (own_ne hown).1
    have c5 := hBk.cell 0
    have f5 := hBk.frozen 0
    simp only at c4
    simp only [List.getElem?_cons_zero] at c5
    have HK : Hid (Grp w0 bs0 (w2.setCell ⟨lp, 0, none⟩ v2) [(⟨p, .slice (some ⟨eg, 0, none⟩) es.length ecap, .slice (some ⟨cg, 0, none⟩) ks.length ccap, es⟩, ks), (⟨lp, v2, lc, les ++ (ms, mr) :: res⟩, lks), (⟨rp, .slice (some ⟨rg, 0, none⟩) res.length rcap, rc, res⟩, rks)]) := by
      refine Grp.frame (A := [(⟨p, .slice (some ⟨eg, 0, none⟩) es.length ecap, .slice (some ⟨cg, 0, none⟩) ks.length ccap, es⟩, ks)]) (B := [(⟨rp, .slice (some ⟨rg, 0, none⟩) res.length rcap, rc, res⟩, rks)]) g2 (one_ents m2 hown K2 ?_)
      have e1 : (les ++ (ms, mr) :: res).length = les.length + 1 + res.length := by simp; omega
      rw [e1, ecells_app]
      simpa [ecells] using h2
    obtain ⟨x2, y2, z2, hv2⟩ : ∃ x y z, v2 = .slice x y z := by
      obtain ⟨q1, q2, q3⟩ := own_some h2 (by omega)
      exact ⟨_, _, _, q3⟩
    subst hv2
    clear h1 h2 k1 k2 k3 k4 hr1' hr2' K1 K2 hy hW hrB1 hrB m1 m2 m3 m3' g2 hBk hown hsep n1 n2 n3 hz0 hz1 hz2 hi0 g1 heB
    go_upto_region 1 with fail
    go_cut [] (fun wx => ∃ le', Grp w0 bs0 wx [(⟨p, .slice (some ⟨eg, 0, none⟩) es.length ecap, .slice (some ⟨cg, 0, none⟩) ks.length ccap, es⟩, ks), (⟨lp, le', lc, les ++ (ms, mr) :: res⟩, lks), (⟨rp, .slice (some ⟨rg, 0, none⟩) res.length rcap, rc, res⟩, rks)])
    case first =>
      go_region_law (first | (refine step_known rfl (exec_append (.tmp 25) (.tmp 33) 26 26 rfl ?_ ?_ HA1.out) ?_; simp [Act.eval, Act.put]; simp [Act.eval, Act.put]) | (refine step_known rfl (exec_append (.tmp 34) (.tmp 38) 26 26 rfl ?_ ?_ HA2.out) ?_; simp [Act.eval, Act.put]; simp [Act.eval, Act.put]))
      all_goals
        go_wp2_with fail
        go_meet
        exact ⟨_, HK.out⟩
    case rest =>
      obtain ⟨le', g3⟩ := hcut
      clear a1 a3 a4 a6 a7 l1 l2 l3 HA1 HA2 HK c4 c5 f5 hWe
      have n1 := g3.n1; have n2 := g3.n2; have n3 := g3.n3
      simp only at n1 n2 n3
      have a3 := n2.c1; have a4 := n3.c1
      simp only at a3 a4
      have hown := g3.ownAt (A := [(⟨p, .slice (some ⟨eg, 0, none⟩) es.length ecap, .slice (some ⟨cg, 0, none⟩) ks.length ccap, es⟩, ks)]) (B := [(⟨rp, .slice (some ⟨rg, 0, none⟩) res.length rcap, rc, res⟩, rks)])
      have hx : (rc = .slice none 0 0 ∧ rks = []) ∨ ∃ hg cap rest, rc = .slice (some ⟨hg, 0, none⟩) rks.length cap ∧ 0 < rks.length ∧ BlockAt wc.drew hg 64 (rks.map ptr ++ rest) := by
        rcases Nat.eq_zero_or_pos rks.length with h | h
        · have h := List.eq_nil_of_length_eq_zero h
          exact .inl ⟨n3.leaf h, h⟩
        · obtain ⟨hg, cap, rest, q1, _, _, _, q2⟩ := n3.kidsOpen h
          exact .inr ⟨hg, cap, rest, q1, h, q2⟩
      obtain ⟨ax, nx, cx, w1, hr, c3, f3, k⟩ := appC_node wc.drew lp le' lc (les ++ (ms, mr) :: res) lks rc rks (n2.same fun _ _ => rfl) hown (by omega) (by omega) hx
      have HA : Hid ((Builtin.append_ #[87, 87] 87 #[lc, rc]).run Try.prog wc.drew = .ok (.slice ax nx cx) w1) := hr
      have HK : Hid (Grp w0 bs0 (w1.setCell ⟨lp, 1, none⟩ (.slice ax nx cx)) [(⟨p, .slice (some ⟨eg, 0, none⟩) es.length ecap, .slice (some ⟨cg, 0, none⟩) ks.length ccap, es⟩, ks), (⟨lp, le', .slice ax nx cx, les ++ (ms, mr) :: res⟩, lks ++ rks), (⟨rp, .slice (some ⟨rg, 0, none⟩) res.length rcap, rc, res⟩, rks)]) :=
        Grp.frame (A := [(⟨p, .slice (some ⟨eg, 0, none⟩) es.length ecap, .slice (some ⟨cg, 0, none⟩) ks.length ccap, es⟩, ks)]) (B := [(⟨rp, .slice (some ⟨rg, 0, none⟩) res.length rcap, rc, res⟩, rks)]) (g3.grown (grown_drew (World.grownBy.refl wc _))) k
      clear hr k hx hown n1 n2 n3 g3
      go_upto_region 2 with fail
      go_cut [] (fun wx => ∃ lc', Grp w0 bs0 wx [(⟨p, .slice (some ⟨eg, 0, none⟩) es.length ecap, .slice (some ⟨cg, 0, none⟩) ks.length ccap, es⟩, ks), (⟨lp, le', lc', les ++ (ms, mr) :: res⟩, lks ++ rks), (⟨rp, .slice (some ⟨rg, 0, none⟩) res.length rcap, rc, res⟩, rks)])
      case first =>
        go_region_law (refine step_known rfl (exec_append (.tmp 46) (.tmp 50) 87 87 rfl ?_ ?_ HA.out) ?_; simp [Act.eval, Act.put]; simp [Act.eval, Act.put])
        all_goals
          go_wp2_with fail
          go_meet
          exact ⟨_, HK.out⟩
      case rest =>
        obtain ⟨lc', g4⟩ := hcut
        clear a3 a4 HA HK c3 f3
        have n1 := g4.n1
        simp only at n1
        have a1 := n1.c0
        have l1 : p < wc.heap.size := n1.node.lt
        simp only at a1
        have hown := g4.ownAt (A := []) (B := [(⟨lp, le', lc', les ++ (ms, mr) :: res⟩, lks ++ rks), (⟨rp, .slice (some ⟨rg, 0, none⟩) res.length rcap, rc, res⟩, rks)])
        have hC := delE_node wc p _ _ es ks i (i + 1) n1 hown (by omega) (by omega)
        rw [show ((i + 1 : Nat) : Int) = (i : Int) + 1 from rfl] at hC
        have HC := hidC hC
        clear hC
        go_upto_region 3 with fail
        go_cut [] (fun wx => ∃ g n c, Grp w0 bs0 wx [(⟨p, .slice (some ⟨g, 0, none⟩) n c, .slice (some ⟨cg, 0, none⟩) ks.length ccap, es.take i ++ es.drop (i + 1)⟩, ks), (⟨lp, le', lc', les ++ (ms, mr) :: res⟩, lks ++ rks), (⟨rp, .slice (some ⟨rg, 0, none⟩) res.length rcap, rc, res⟩, rks)])
        case first =>
          clear hown n1
          go_wp2_with (go_at_call 62; refine HC.out.mono ?_; rintro e1 w1 ⟨g1, n1, c1, rfl, c3, f3, k⟩)
          go_meet
          exact ⟨_, _, _, Grp.frame (A := []) (B := [(⟨lp, le', lc', les ++ (ms, mr) :: res⟩, lks ++ rks), (⟨rp, .slice (some ⟨rg, 0, none⟩) res.length rcap, rc, res⟩, rks)]) g4 k⟩
        case rest =>
          obtain ⟨g1, x1, c1, g5⟩ := hcut
          clear n1 a1 l1 hown HC g4
          have n1 := g5.n1
          simp only at n1
          have a1 := n1.c1
          have l1 : p < wc.heap.size := n1.node.lt
          simp only at a1
          have hown := g5.ownAt (A := []) (B := [(⟨lp, le', lc', les ++ (ms, mr) :: res⟩, lks ++ rks), (⟨rp, .slice (some ⟨rg, 0, none⟩) res.length rcap, rc, res⟩, rks)])
          have hC := delC_node wc p _ _ (es.take i ++ es.drop (i + 1)) ks (i + 1) (i + 2) n1 hown (by omega) (by omega) (by omega)
          rw [show ((i + 1 : Nat) : Int) = (i : Int) + 1 from rfl, show ((i + 2 : Nat) : Int) = (i : Int) + 2 from rfl] at hC
          have HC := hidC hC
          clear hC
          clear hown n1
          go_wp2_with (go_at_call 72; refine HC.out.mono ?_; rintro e1 w1 ⟨g2, x2, c2, rfl, c3, f3, k⟩)
          go_end0
          exact ⟨rfl, _, _, _, _, Grp.frame (A := []) (B := [(⟨lp, le', lc', les ++ (ms, mr) :: res⟩, lks ++ rks), (⟨rp, .slice (some ⟨rg, 0, none⟩) res.length rcap, rc, res⟩, rks)]) g5 k⟩
end Go.Proofs.Qxb6601380a
