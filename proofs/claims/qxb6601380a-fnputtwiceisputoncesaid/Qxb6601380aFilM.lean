/-
  fill (65), where no child beside has an entry to spare: a merge.
-/
import Derived.Test.Qxb6601380aMrg
namespace Go.Proofs.Qxb6601380a
open Go.RowKit

set_option maxHeartbeats 8000000 in
set_option maxRecDepth 100000 in
theorem fill_mergeA (w0 : World) (bs0 : List Nat) (w : World) (p ve vc es ks : _) (lp le lc les lks : _) (rp re rc res rks : _) (i : Nat)
    (g : Grp w0 bs0 w [(⟨p, ve, vc, es⟩, ks), (⟨lp, le, lc, les⟩, lks), (⟨rp, re, rc, res⟩, rks)])
    (hi : ks[i]? = some lp) (hi1 : ks[i + 1]? = some rp) (ms mr : _) (hm : es[i]? = some (ms, mr)) (hes : es.length ≤ 100) (hks : ks.length ≤ 100)
    (hl1 : les.length ≤ 31) (hr0 : 0 < res.length) (hr1 : res.length ≤ 15) (hl2 : lks.length ≤ 100) (hr2 : rks.length ≤ 100)
    (hbef : i = 0 ∨ ∃ lp le, ks[i - 1]? = some lp ∧ w.cell? ⟨lp, 0, none⟩ = some le ∧ ∃ a n c, le = .slice a n c ∧ n ≤ 15) :
    Calls Try.prog 65 #[ptr p, .int .i64 i] w fun e w' => e = .returned (.int .i64 i) ∧ ∃ ve' vc' le' lc',
      Grp w0 bs0 w' [(⟨p, ve', vc', es.take i ++ es.drop (i + 1)⟩, ks.take (i + 1) ++ ks.drop (i + 2)), (⟨lp, le', lc', les ++ (ms, mr) :: res⟩, lks ++ rks), (⟨rp, re, rc, res⟩, rks)] := by
  have hil := (List.getElem?_eq_some_iff.1 hi1).1
  have hie := (List.getElem?_eq_some_iff.1 hm).1
  have n1 := g.n1; have n3 := g.n3
  simp only at n1 n3
  have HC := hidC (merge64 w0 bs0 w p ve vc es ks lp le lc les lks rp re rc res rks i g hi hi1 ms mr hm hes hks hl1 hr0 (by omega) hl2 hr2)
  obtain ⟨cg, ccap, crest, hvc, hk1, hk2, hk3, hcB⟩ := n1.kidsOpen (by omega)
  obtain ⟨eg, ecap, erest, hve, he1, he2, he3, heB⟩ := n1.entsOpen (by simp only; omega)
  obtain ⟨rg, rcap, rrest, hre, hr3, hr4, hr5, hrB⟩ := n3.entsOpen (by simp only; omega)
  simp only at hk1 hk2 hk3 hcB hvc hve he1 he2 he3 heB hre hr3 hr4 hr5 hrB
  subst hvc hve hre
  have a1 := n1.c0
  have a2 := n1.c1
  have a3 := n3.c0
  have a5 := kid_cell hcB hi
  have a6 := kid_cell hcB hi1
  simp only at a1 a2 a3
  unfold ptr at a5 a6
  have b1 : (i : Int) < (ks.length : Int) := by omega
  have b2 : (i : Int) + 1 < (ks.length : Int) := by omega
  have b3 : i ≤ 4000000000 := by omega
  have b4 : (i : Int) < (es.length : Int) := by omega
  have b5 : decide ((15 : Int) < (res.length : Int)) = false := by simp; omega
  unfold ptr at HC ⊢
  clear g n1 n3 hrB hr5 rrest heB he3 erest
  go_enter Try.func65, Try.ntmps65
  go_upto_region 4 with fail
  go_cut [21] (fun x wx => x = .bool false ∧ wx = w)
  case first =>
    rcases Nat.eq_zero_or_pos i with h0 | h0
    · subst h0
      have hd0 : decide ((0 : Int) < (0 : Int)) = false := by decide
      clear hbef HC
      go_wp2_with fail
      go_meet
      exact ⟨rfl, rfl⟩
    · obtain ⟨lp, le, h1, h2, a, n, c, rfl, h3⟩ := hbef.resolve_left (by omega)
      obtain ⟨j, rfl⟩ : ∃ j, i = j + 1 := ⟨i - 1, by omega⟩
      have e1 : ((j + 1 : Nat) : Int) = (j : Int) + 1 := rfl
      simp only [Nat.add_sub_cancel] at h1
      have q1 := kid_cell hcB h1
      unfold ptr at q1
      have q2 : decide ((15 : Int) < (n : Int)) = false := by simp; omega
      have q3 : (0 : Int) < (j : Int) + 1 := by omega
      have q4 : (j : Int) < (ks.length : Int) := by omega
      have q5 : j ≤ 4000000000 := by omega
      clear hbef HC hcB hi hi1 hm b1 b2 b3 b4 b5
      rw [e1]
      clear e1
      go_wp2_with fail
      go_meet
      exact ⟨rfl, rfl⟩
  case rest =>
    obtain ⟨rfl, rfl⟩ := hcut
    clear hbef hcB hk3 crest
    go_upto_region 21 with fail
    go_wp2_with (go_at_call 64; refine HC.out.mono ?_; rintro e1 w1 ⟨rfl, ve', vc', le', lc', gg⟩)
    go_ret
    exact ⟨rfl, ve', vc', le', lc', gg⟩

set_option maxHeartbeats 8000000 in
set_option maxRecDepth 100000 in
theorem fill_mergeB (w0 : World) (bs0 : List Nat) (w : World) (p ve vc es ks : _) (lp le lc les lks : _) (rp re rc res rks : _) (j : Nat)
    (g : Grp w0 bs0 w [(⟨p, ve, vc, es⟩, ks), (⟨lp, le, lc, les⟩, lks), (⟨rp, re, rc, res⟩, rks)])
    (hi : ks[j]? = some lp) (hi1 : ks[j + 1]? = some rp) (ms mr : _) (hm : es[j]? = some (ms, mr)) (hje : es.length = j + 1) (hes : es.length ≤ 100) (hks : ks.length ≤ 100)
    (hl0 : 0 < les.length) (hl1 : les.length ≤ 15) (hr0 : 0 < res.length) (hr1 : res.length ≤ 31) (hl2 : lks.length ≤ 100) (hr2 : rks.length ≤ 100) :
    Calls Try.prog 65 #[ptr p, .int .i64 ((j : Int) + 1)] w fun e w' => e = .returned (.int .i64 j) ∧ ∃ ve' vc' le' lc',
      Grp w0 bs0 w' [(⟨p, ve', vc', es.take j ++ es.drop (j + 1)⟩, ks.take (j + 1) ++ ks.drop (j + 2)), (⟨lp, le', lc', les ++ (ms, mr) :: res⟩, lks ++ rks), (⟨rp, re, rc, res⟩, rks)] := by
  have hil := (List.getElem?_eq_some_iff.1 hi1).1
  have n1 := g.n1; have n2 := g.n2
  simp only at n1 n2
  have HC := hidC (merge64 w0 bs0 w p ve vc es ks lp le lc les lks rp re rc res rks j g hi hi1 ms mr hm hes hks (by omega) hr0 hr1 hl2 hr2)
  obtain ⟨cg, ccap, crest, hvc, hk1, hk2, hk3, hcB⟩ := n1.kidsOpen (by omega)
  obtain ⟨eg, ecap, erest, hve, he1, he2, he3, heB⟩ := n1.entsOpen (by simp only; omega)
  obtain ⟨lg, lcap, lrest, hle, hl3, hl4, hl5, hlB⟩ := n2.entsOpen (by simp only; omega)
  simp only at hk1 hk2 hk3 hcB hvc hve he1 he2 he3 heB hle hl3 hl4 hl5 hlB
  subst hvc hve hle
  have a1 := n1.c0
  have a2 := n1.c1
  have a3 := n2.c0
  have a5 := kid_cell hcB hi
  have a6 := kid_cell hcB hi1
  simp only at a1 a2 a3
  unfold ptr at a5 a6
  have b1 : (j : Int) < (ks.length : Int) := by omega
  have b2 : (j : Int) + 1 < (ks.length : Int) := by omega
  have b3 : j ≤ 4000000000 := by omega
  have b4 : (0 : Int) < (j : Int) + 1 := by omega
  have b5 : decide ((15 : Int) < (les.length : Int)) = false := by simp; omega
  obtain ⟨L, hL⟩ : ∃ L, L = es.length := ⟨_, rfl⟩
  rw [← hL] at a1
  have b6 : decide ((j : Int) + 1 < (L : Int)) = false := by rw [hL, hje]; simp
  unfold ptr at HC ⊢
  clear g n1 n2 hlB hl5 lrest heB he3 erest hcB hi hi1 hm hk3 crest hje hL
  go_enter Try.func65, Try.ntmps65
  go_wp2_with (go_at_call 64; refine HC.out.mono ?_; rintro e1 w1 ⟨rfl, ve', vc', le', lc', gg⟩)
  go_ret
  exact ⟨rfl, ve', vc', le', lc', gg⟩
end Go.Proofs.Qxb6601380a
