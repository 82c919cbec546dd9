/-
  last (58) and first (63): a tree's last and first entry.
-/
import Derived.Test.Qxb6601380aFtree
import Derived.Deep.LoopGhost
import Derived.BigQuiet
namespace Go.Proofs.Qxb6601380a
open Go.RowKit

theorem grown_new {w w' : World} {g : Nat} (h : w.grownBy w' none) (o : Nat) (u : Value) (hg : w.heap.size ≤ g := by omega) : w.grownBy (w'.setCell ⟨g, o, none⟩ u) none := by
  refine ⟨h.os, h.tape, h.output, Nat.le_trans h.size (grown_set _ _ _ _).size, fun b hb hn => ?_⟩
  rw [Below.heap_setCell _ _ _ _ (by show b ≠ g; omega), h.block b hb hn]

theorem results_cell1 {fn : Func} {p : Tmp} {ty : TypeId} (h : fn.results = #[.cell p ty]) (tmps : Array Value) (P : Program) (w : World) :
    (results fn tmps).run P w = ((asAddr (tmps.getD p undef)).run P w).andThen fun a w₁ => (loadVar ty a).run P w₁ := by
  simp only [results, h]
  simp [Sem.run_bind, Result.andThen]

set_option maxHeartbeats 4000000 in
set_option maxRecDepth 100000 in
theorem last58 (h : Nat) (t : T h) (w : World) (hl : Lies w h t) (hs : Shape 1 h t) :
    Calls Try.prog 58 #[ptr (hd h t).p] w fun e w' => ∃ s r, e = .returned (.agg #[.string s, .int .u32 r]) ∧ (∃ F, flat h t = F ++ [(s, r)]) ∧ w.grownBy w' none := by
  obtain ⟨F, hF⟩ : ∃ F, F = flat h t := ⟨_, rfl⟩
  obtain ⟨p, hp⟩ : ∃ p, p = (hd h t).p := ⟨_, rfl⟩
  rw [← hF, ← hp]
  have HF := (show Hid _ from hF)
  clear hF
  unfold ptr
  go_enter Try.func58, Try.ntmps58
  go_wp2
  go_loopg [0] h (fun k x wr => ∃ (u : T k) (q : Nat) (pre : List Ent), x = .pointer (some ⟨q, 0, none⟩) ∧ (hd k u).p = q ∧ Lies wr k u ∧ Shape 1 k u ∧ F = pre ++ flat k u ∧ w.grownBy wr none ∧ BlockAt wr w.heap.size 36 [.string ⟨#[]⟩, .int .u32 0])
  case atStart =>
    refine ⟨t, p, [], rfl, hp.symm, hl.same fun b hb => Below.heap_alloc _ _ _ (hl.lt b hb), hs, by simpa using HF.out, World.grownBy_alloc _ _ _, blockAt_new w 36 [.string ⟨#[]⟩, .int .u32 0]⟩
  case round =>
    obtain ⟨u, q, pre, rfl, hq, hl1, hs1, hF1, hg, hB⟩ := hrel
    clear HF hl hs hp
    have n := lies_node hl1
    have a1 := n.c1
    rw [hq] at a1
    have HF1 := (show Hid _ from hF1)
    clear hF1
    cases gk with
    | zero =>
      have hvc := n.leaf rfl
      rw [hvc] at a1
      have hnil := fun w' => run_neq_slice_nil_any (P := Try.prog) w' 87 64 none 0 0 0 0 Try.underlying87
      obtain ⟨d0, ve, vc, es⟩ := u
      simp only [hd] at hq hvc n
      subst hq
      have hes : 1 ≤ es.length := hs1.1
      have hes2 : es.length ≤ 31 := hs1.2
      obtain ⟨eg, ecap, erest, hve, he1, he2, he3, heB⟩ := n.entsOpen (by simp only; omega)
      simp only at hve he1 he2 he3 heB
      have a0 := n.c0
      simp only [hve] at a0
      rcases List.eq_nil_or_concat es with rfl | ⟨es0, ⟨s, r⟩, rfl⟩
      · simp at hes
      rw [List.concat_eq_append] at *
      obtain ⟨a2, a3⟩ := ent_cell heB (i := es0.length) (e := (s, r)) (by simp)
      simp only [List.length_append, List.length_cons, List.length_nil, Nat.zero_add] at a0 hes2
      have b1 : es0.length ≤ 4000000000 := by omega
      have b2 : (es0.length : Int) < (es0.length : Int) + 1 := by omega
      have bw : IntKind.i64.wrap (es0.length : Int) = (es0.length : Int) := by rw [IntKind.wrap_i64]; omega
      have c1 := hB.cell 0; have c2 := hB.cell 1; have f1 := hB.frozen 0; have f2 := hB.frozen 1
      simp only [List.getElem?_cons_zero, List.getElem?_cons_succ] at c1 c2
      clear hve he1 he2 he3 heB hes n hl1 hs1 hvc
      go_wp2
      go_region
      all_goals
        go_wp2
        (try simp only [Exit.inBlock, Exit.then])
        refine bodyPost_ret (v := .agg #[.string s, .int .u32 r]) ?_ rfl ⟨s, r, rfl, ⟨pre ++ es0, by rw [HF1.out]; simp [flat]⟩, ?_⟩
        · rw [results_cell1 rfl]
          go_simp
        first
          | exact grown_drew (grown_new (grown_new hg _ _) _ _)
          | exact grown_new (grown_new (grown_drew hg) _ _) _ _
    | succ k =>
      obtain ⟨⟨d0, ve, vc, es⟩, L⟩ := u
      simp only [hd] at hq
      subst hq
      obtain ⟨s1, s2, s3, s4⟩ := hs1
      simp only at s1 s2 s3 s4
      rcases List.eq_nil_or_concat L with rfl | ⟨L0, c, rfl⟩
      · simp at s3
      rw [List.concat_eq_append] at *
      simp only [List.length_append, List.length_cons, List.length_nil, Nat.add_right_cancel_iff] at s3
      have hks : kps (k + 1) (⟨d0, ve, vc, es⟩, L0 ++ [c]) = kids k L0 ++ [(hd k c).p] := by simp [kps, kids]
      rw [hks] at n
      obtain ⟨cg, ccap, crest, hvc, hc1, hc2, hc3, hcB⟩ := n.kidsOpen (by simp)
      simp only [hd] at hvc hc1 hc2 hc3
      have a5 := kid_cell hcB (i := L0.length) (p := (hd k c).p) (by rw [← kids_len k L0]; simp)
      obtain ⟨cp, hcp⟩ : ∃ cp, cp = (hd k c).p := ⟨_, rfl⟩
      rw [← hcp] at a5
      unfold ptr at a5
      simp only [hd] at a1
      simp only [List.length_append, List.length_cons, List.length_nil, Nat.zero_add, kids_len] at hvc
      rw [hvc] at a1
      have hnil := fun w' => run_neq_slice_nil_any (P := Try.prog) w' 87 64 (some ⟨cg, 0, none⟩) (L0.length + 1) ccap 0 0 Try.underlying87
      have b1 : L0.length ≤ 4000000000 := by omega
      have b2 : (L0.length : Int) < (L0.length : Int) + 1 := by omega
      have bw : IntKind.i64.wrap (L0.length : Int) = (L0.length : Int) := by rw [IntKind.wrap_i64]; omega
      have hlc := hl1.2 c (by simp)
      have hsc : Shape 1 k c := (s4 c (by simp)).le (by have := (s4 c (by simp)).lo; omega)
      have HF2 : Hid (F = (pre ++ inter es (L0.map (flat k))) ++ flat k c) := by
        have := HF1.out
        rw [flat_one (a := es) (b := []) (B := []) (by simp) (by omega)] at this
        show F = _
        rw [this]
        simp only [List.map_nil, tl, inter, List.append_nil, List.append_assoc]
      clear HF1 hks hc1 hc2 hc3 hcB hvc n s1 s2 s3 s4 hl1
      go_wp2
      go_quiet (fail)
      go_wp2
      go_roundg k
      case measure => omega
      case rel => exact ⟨c, _, _, rfl, by first | rfl | exact hcp.symm, hlc.same fun _ _ => rfl, hsc, HF2.out, grown_drewN hg _, hB.same rfl⟩

set_option maxHeartbeats 4000000 in
set_option maxRecDepth 100000 in
theorem first63 (h : Nat) (t : T h) (w : World) (hl : Lies w h t) (hs : Shape 1 h t) :
    Calls Try.prog 63 #[ptr (hd h t).p] w fun e w' => ∃ s r, e = .returned (.agg #[.string s, .int .u32 r]) ∧ (∃ F, flat h t = (s, r) :: F) ∧ w.grownBy w' none := by
  obtain ⟨F, hF⟩ : ∃ F, F = flat h t := ⟨_, rfl⟩
  obtain ⟨p, hp⟩ : ∃ p, p = (hd h t).p := ⟨_, rfl⟩
  rw [← hF, ← hp]
  have HF := (show Hid _ from hF)
  clear hF
  unfold ptr
  go_enter Try.func63, Try.ntmps63
  go_wp2
  go_loopg [0] h (fun k x wr => ∃ (u : T k) (q : Nat) (post : List Ent), x = .pointer (some ⟨q, 0, none⟩) ∧ (hd k u).p = q ∧ Lies wr k u ∧ Shape 1 k u ∧ F = flat k u ++ post ∧ w.grownBy wr none ∧ BlockAt wr w.heap.size 36 [.string ⟨#[]⟩, .int .u32 0])
  case atStart =>
    refine ⟨t, p, [], rfl, hp.symm, hl.same fun b hb => Below.heap_alloc _ _ _ (hl.lt b hb), hs, by simpa using HF.out, World.grownBy_alloc _ _ _, blockAt_new w 36 [.string ⟨#[]⟩, .int .u32 0]⟩
  case round =>
    obtain ⟨u, q, pre, rfl, hq, hl1, hs1, hF1, hg, hB⟩ := hrel
    clear HF hl hs hp
    have n := lies_node hl1
    have a1 := n.c1
    rw [hq] at a1
    have HF1 := (show Hid _ from hF1)
    clear hF1
    cases gk with
    | zero =>
      have hvc := n.leaf rfl
      rw [hvc] at a1
      have hnil := fun w' => run_neq_slice_nil_any (P := Try.prog) w' 87 64 none 0 0 0 0 Try.underlying87
      obtain ⟨d0, ve, vc, es⟩ := u
      simp only [hd] at hq hvc n
      subst hq
      have hes : 1 ≤ es.length := hs1.1
      have hes2 : es.length ≤ 31 := hs1.2
      obtain ⟨eg, ecap, erest, hve, he1, he2, he3, heB⟩ := n.entsOpen (by simp only; omega)
      simp only at hve he1 he2 he3 heB
      have a0 := n.c0
      simp only [hve] at a0
      rcases es with _ | ⟨⟨s, r⟩, es0⟩
      · simp at hes
      obtain ⟨a2, a3⟩ := ent_cell heB (i := 0) (e := (s, r)) (by simp)
      simp only [List.length_cons] at a0 hes2
      simp only [Nat.zero_mul, Nat.zero_add] at a2 a3
      have b2 : (0 : Int) < (es0.length : Int) + 1 := by omega
      have c1 := hB.cell 0; have c2 := hB.cell 1; have f1 := hB.frozen 0; have f2 := hB.frozen 1
      simp only [List.getElem?_cons_zero, List.getElem?_cons_succ] at c1 c2
      clear hve he1 he2 he3 heB hes n hl1 hs1 hvc
      go_wp2
      (try simp only [Exit.inBlock, Exit.then])
      refine bodyPost_ret (v := .agg #[.string s, .int .u32 r]) ?_ rfl ⟨s, r, rfl, ⟨es0 ++ pre, by rw [HF1.out]; simp [flat]⟩, ?_⟩
      · rw [results_cell1 rfl]
        go_simp
      exact grown_new (grown_new hg _ _) _ _
    | succ k =>
      obtain ⟨⟨d0, ve, vc, es⟩, L⟩ := u
      simp only [hd] at hq
      subst hq
      obtain ⟨s1, s2, s3, s4⟩ := hs1
      simp only at s1 s2 s3 s4
      rcases L with _ | ⟨c, L0⟩
      · simp at s3
      simp only [List.length_cons, Nat.add_right_cancel_iff] at s3
      have hks : kps (k + 1) (⟨d0, ve, vc, es⟩, c :: L0) = (hd k c).p :: kids k L0 := by simp [kps, kids]
      rw [hks] at n
      obtain ⟨cg, ccap, crest, hvc, hc1, hc2, hc3, hcB⟩ := n.kidsOpen (by simp)
      simp only [hd] at hvc hc1 hc2 hc3
      have a5 := kid_cell hcB (i := 0) (p := (hd k c).p) (by simp)
      obtain ⟨cp, hcp⟩ : ∃ cp, cp = (hd k c).p := ⟨_, rfl⟩
      rw [← hcp] at a5
      unfold ptr at a5
      simp only [hd] at a1
      simp only [List.length_cons, kids_len] at hvc
      rw [hvc] at a1
      have hnil := fun w' => run_neq_slice_nil_any (P := Try.prog) w' 87 64 (some ⟨cg, 0, none⟩) (L0.length + 1) ccap 0 0 Try.underlying87
      have b2 : (0 : Int) < (L0.length : Int) + 1 := by omega
      have hlc := hl1.2 c (by simp)
      have hsc : Shape 1 k c := (s4 c (by simp)).le (by have := (s4 c (by simp)).lo; omega)
      have HF2 : Hid (F = flat k c ++ (tl es (L0.map (flat k)) ++ pre)) := by
        have := HF1.out
        rw [show c :: L0 = [] ++ c :: L0 from rfl, flat_one (A := []) (a := []) (b := es) (by simp) rfl] at this
        show F = _
        rw [this]
        simp only [List.map_nil, inter, List.nil_append, List.append_assoc]
      clear HF1 hks hc1 hc2 hc3 hcB hvc n s1 s2 s3 s4 hl1
      go_wp2
      go_roundg k
      case measure => omega
      case rel => exact ⟨c, _, _, rfl, by first | rfl | exact hcp.symm, hlc, hsc, HF2.out, hg, hB⟩
end Go.Proofs.Qxb6601380a
