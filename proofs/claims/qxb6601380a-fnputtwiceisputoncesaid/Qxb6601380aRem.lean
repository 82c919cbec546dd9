/-
  remove (45).
-/
import Derived.Test.Qxb6601380aRemA
import Derived.Test.Qxb6601380aEnds
import Derived.Test.Qxb6601380aSrch
import Derived.Deep.LoopGhost
import Derived.Deep.DeepCutAuto
import Derived.BigQuiet
namespace Go.Proofs.Qxb6601380a
open Go.RowKit

theorem inter_sub2 : ∀ (es : List Ent) (ks : List (List Ent)), es.length ≤ ks.length → es.Sublist (inter es ks)
  | [], _, _ => List.nil_sublist _
  | _ :: _, [], h => by simp at h
  | e :: es, x :: ks, h => by
    have := inter_sub2 es ks (by simpa using h)
    exact (List.Sublist.cons_cons e this).trans (List.sublist_append_right x _)

theorem es_sub2 {h : Nat} {t : T h} (hc : Cnt h (hd h t).es.length (subs h t).length) : (hd h t).es.Sublist (flat h t) := by
  rw [flat_subs]
  cases h with
  | zero => exact List.Sublist.refl _
  | succ h => exact inter_sub2 _ _ (by rw [List.length_map]; simp only [Cnt] at hc; omega)

set_option linter.unusedSimpArgs false in
set_option maxHeartbeats 8000000 in
set_option maxRecDepth 100000 in
theorem remove45 (w : World) (st : Nat) (L : List Ent) (bs : List Nat) (k : ByteArray) (hT : TreeAt w st L bs) (hk : ∃ r0, (k, r0) ∈ L) (hL : L.length ≤ 1000000000) :
    Calls Try.prog 45 #[ptr st, .string k] w fun e w' => e = .returned (.tuple #[]) ∧ ∃ bs', TreeAt w' st (rmL k L) bs' ∧ Moved w w' bs bs' := by
  obtain ⟨⟨H, u, ah, hst, hok, hfl, hsu, hbs⟩, hsrt⟩ := hT
  obtain ⟨r0, hk⟩ := hk
  have hlen := rm_len hsrt hk
  obtain ⟨n, hn⟩ : ∃ n, n = (rmL k L).length := ⟨_, rfl⟩
  rw [← hn] at hlen
  obtain ⟨rp, hrp⟩ : ∃ rp, rp = (hd H u).p := ⟨_, rfl⟩
  rw [← hrp, hlen, show ((n + 1 : Nat) : Int) = (n : Int) + 1 from rfl] at hst
  have c0 := hst.cell 0; have c1 := hst.cell 1; have f1 := hst.frozen 1
  simp only [List.getElem?_cons_zero, List.getElem?_cons_succ] at c0 c1
  have b1 : n ≤ 4000000000 := by omega
  have HP : Hid (RmInv w st (rmL k L) bs ah rp H u (min H 1) [] [] [] k (w.setCell ⟨st, 1, none⟩ (.int .i64 n))) := by
    have hw : ∀ b, b ≠ st → (w.setCell ⟨st, 1, none⟩ (.int .i64 n)).heap[b]? = w.heap[b]? := fun b hb => Below.heap_setCell _ _ _ _ hb
    have o : Ok (w.setCell ⟨st, 1, none⟩ (.int .i64 n)) (min H 1) H u := hok.same fun b hb => hw b fun e => hsu (e ▸ hb)
    refine ⟨by rw [hrp]; exact spot_top o, ?_, by simpa using hsu, ?_, by rw [hfl]; exact hsrt, ⟨r0, by rw [hfl]; exact hk⟩, by rw [hfl]; simp, .inl ⟨rfl, rfl, rfl, rfl, hrp⟩⟩
    · rw [← hn]
      exact hst.set 1 _
    · refine ⟨rfl, rfl, rfl, by simp, fun b hb hx => hw b fun e => hx ((hbs b).2 (.inl e)), fun b hb => .inl ((hbs b).2 ?_)⟩
      simpa using hb
  have HRP := (show Hid _ from hrp)
  unfold ptr at c0 ⊢
  clear hok hsu hbs hst hrp hfl hn hlen hk
  go_enter Try.func45, Try.ntmps45
  go_wp2
  go_loopg [1, 4] H (fun gk vk x wr => ∃ (t : T gk) (lo : Nat) (fo : List Nat) (pre post : List Ent) (q root : Nat) (k2 : ByteArray), vk = .string k2 ∧ x = .pointer (some ⟨q, 0, none⟩) ∧ (hd gk t).p = q ∧ RmInv w st (rmL k L) bs ah root gk t lo fo pre post k2 wr)
  case atStart => exact ⟨u, _, _, _, _, rp, rp, k, rfl, rfl, HRP.out.symm, HP.out⟩
  case round =>
    obtain ⟨t, lo, fo, pre, post, q, root, k2, rfl, rfl, hq, I⟩ := hrel
    clear HP HRP c0 c1 f1 b1
    obtain ⟨q', ve, vc, es, l, rfl⟩ := mk_open t
    rw [hd_mk] at hq
    simp only at hq
    subst hq
    have n1 := lies_node I.spot.ok.lies
    have hsh := shape_subs.1 I.spot.ok.shape
    rw [hd_mk, kps_mk] at n1
    simp only [hd_mk, subs_mk] at hsh
    obtain ⟨x, y, hve⟩ := ve_slice n1
    simp only at hve
    subst hve
    have a0 := n1.c0
    simp only at a0
    have hsub := es_sub2 (t := mk gk ⟨q', .slice x es.length y, vc, es⟩ l) (by simp only [hd_mk, subs_mk]; exact hsh.2.2.1)
    simp only [hd_mk] at hsub
    have HC := hidC (bsf59 (.slice x es.length y) es k2 wr n1.ents (List.Pairwise.sublist hsub I.srt) hsh.2.1)
    have HI : Hid _ := I
    clear I n1 hsh hsub
    go_upto_region 2 with fail
    go_cut [5, 6] from 20 to 169 (fun vi vf wx => ∃ (i : Nat) (f : Bool), vi = .int .i64 i ∧ vf = .bool f ∧ Fnd es k2 i f ∧ RmInv w st (rmL k L) bs ah root gk (mk gk ⟨q', .slice x es.length y, vc, es⟩ l) lo fo pre post k2 wx)
    case first =>
      go_wp2_with (go_at_call 59; refine HC.out.mono ?_; rintro e1 w1 ⟨i, f, rfl, hF, hg⟩)
      go_meet
      exact ⟨i, f, rfl, rfl, hF, HI.out.grown hg⟩
    case rest =>
      obtain ⟨i, f, rfl, rfl, ⟨a, b, hai, hBef, hAft, hfnd⟩, I⟩ := hcut
      clear HC HI a0
      rename_i hK
      refine hK _ _ ?_
      clear hK
      refine wp_seq_k fun K hK2 => ?_
      go_cut [1, 5] from 20 to 169 (fun vk vi wx => ∃ (g : Nat) (k3 : ByteArray) (d : Hd) (A B : List (T g)) (c : T g) (a b : List Ent), gk = g + 1 ∧ vk = .string k3 ∧ vi = .int .i64 A.length ∧ d.p = q' ∧ RmMid w st (rmL k L) bs ah root g d A c B a b fo pre post k3 wx)
      case first =>
        have n1 := lies_node I.spot.ok.lies
        have hsh := shape_subs.1 I.spot.ok.shape
        rw [hd_mk, kps_mk] at n1
        simp only [hd_mk, subs_mk] at hsh
        have a0 := n1.c0; have a1 := n1.c1
        simp only at a0 a1
        have hown : (⟨q', .slice x es.length y, vc, es⟩ : Hd).own.Nodup := by
          have := I.spot.ok.apart
          rw [blocks_subs, hd_mk] at this
          exact (List.nodup_append.1 this).1
        cases gk with
        | zero =>
          have hl0 := sub0 l
          subst hl0
          have hlc := n1.leaf rfl
          simp only at hlc
          subst hlc
          have hnil := fun w' => Lib.run_eql_slice_nil (P := Try.prog) w' 87 64 none 0 0 0 0 Try.underlying87
          rcases hfnd with ⟨rfl, hes⟩ | ⟨rfl, r1, hes⟩
          · exfalso
            obtain ⟨r1, h1⟩ := I.has
            have h1 : (k2, r1) ∈ es := h1
            rw [hes] at h1
            rcases List.mem_append.1 h1 with h | h
            · exact kl_irrefl k2 (hBef _ h)
            · exact kl_irrefl k2 (hAft _ h)
          · have hil : i < es.length := by rw [hes, ← hai]; simp
            have hC := delE_node wc q' (.slice x es.length y) (.slice none 0 0) es [] i (i + 1) n1 hown (by omega) (by omega)
            rw [show ((i + 1 : Nat) : Int) = (i : Int) + 1 from rfl] at hC
            have HC := hidC hC
            have hes' : es.take i ++ es.drop (i + 1) = a ++ b := by
              rw [hes, ← hai, List.take_left, show a ++ (k2, r1) :: b = (a ++ [(k2, r1)]) ++ b by simp, List.drop_left' (by simp)]
            have hlo : lo + 1 ≤ es.length := by
              rcases I.top with ⟨q1, _⟩ | ⟨q1, q2, _⟩
              · rw [q1]; simp only [Nat.zero_min]; omega
              · rw [hd_mk] at q2
                simp only at q2
                omega
            have HE : Hid (∀ v w1, Grp wc (owns [(⟨q', .slice x es.length y, .slice none 0 0, es⟩, [])]) w1 [(⟨q', v, .slice none 0 0, es.take i ++ es.drop (i + 1)⟩, [])] → ∃ bs', TreeAt w1 st (rmL k L) bs' ∧ Moved w w1 bs bs') := by
              intro v w1 gg
              rw [hes'] at gg
              have hlen : (a ++ b).length + 1 = es.length := by rw [hes]; simp; omega
              obtain ⟨o', m'⟩ := regroup1 (lo' := lo) (d' := ⟨q', v, .slice none 0 0, a ++ b⟩) I.spot.ok (by rw [hd_mk, kps_mk]; exact gg) (by simp only; omega) (by simp only; have := hsh.2.1; omega) trivial
              refine I.done hsrt rfl m' o' (by rw [hd_mk, hd_mk]) ?_
              show a ++ b = rmL k2 es
              rw [hes, rmL_old hBef hAft]
            have b1 : i ≤ 4000000000 := by have := hsh.2.1; omega
            clear I n1 hsh hown hC hes hes' hBef hAft hlo
            go_wp2_with (go_at_call 62; refine HC.out.mono ?_; rintro e1 w1 ⟨g1, x1, c1, rfl, c3, f3, kk⟩)
            (try simp only [Exit.inBlock, Exit.then])
            refine bodyPost_ret (results_none rfl _ _ _) rfl ⟨rfl, HE.out _ _ kk⟩
        | succ g =>
          change List (T g) at l
          have hll : l.length = es.length + 1 := hsh.2.2.1
          have h31 := hsh.2.1
          have hks : l.map (sp (g + 1)) = kids g l := rfl
          rw [hks] at n1
          obtain ⟨cg, ccap, crest, hvc, hk1, hk3, hk4, hcB⟩ := n1.kidsOpen (by rw [kids_len]; omega)
          simp only [kids_len] at hvc
          rw [hvc] at a1
          have hnil := fun w' => Lib.run_eql_slice_nil (P := Try.prog) w' 87 64 (some ⟨cg, 0, none⟩) l.length ccap 0 0 Try.underlying87
          obtain ⟨N, hN⟩ : ∃ N, N = l.length := ⟨_, rfl⟩
          rw [← hN] at a1 hnil
          have hchild : ∀ (j : Nat) (c : T g), l[j]? = some c → ∃ cp x2 y2, cp = (hd g c).p ∧ wc.cell? ⟨cg, j, none⟩ = some (.pointer (some ⟨cp, 0, none⟩)) ∧ wc.cell? ⟨cp, 0, none⟩ = some (.slice x2 (hd g c).es.length y2) ∧ 15 ≤ (hd g c).es.length ∧ (hd g c).es.length ≤ 31 ∧ Lies wc g c ∧ Shape 1 g c := by
            intro j c hj
            have hcm : c ∈ l := List.mem_of_getElem? hj
            have nc := lies_node (I.spot.ok.lies.2 c hcm)
            obtain ⟨x2, y2, hv⟩ := ve_slice nc
            have hcs := I.spot.ok.shape.2.2.2 c hcm
            refine ⟨_, x2, y2, rfl, ?_, ?_, hcs.lo.1, hcs.lo.2, I.spot.ok.lies.2 c hcm, hcs.le (by have := hcs.lo.1; omega)⟩
            · have := kid_cell hcB (i := j) (p := (hd g c).p) (by rw [kids, List.getElem?_map, hj]; rfl)
              exact this
            · rw [nc.c0, hv]
          have hes1 : 1 ≤ es.length := by
            rcases I.top with ⟨q1, _⟩ | ⟨_, q2, _⟩
            · have := hsh.1
              rw [q1] at this
              omega
            · have q2 : 16 ≤ es.length := q2
              omega
          have b0 : i ≤ es.length := by
            rcases hfnd with ⟨_, hes⟩ | ⟨_, r1, hes⟩ <;> rw [hes, ← hai] <;> simp
          have b1 : i ≤ 4000000000 := by omega
          have b2 : (i : Int) < (N : Int) := by omega
          rcases hfnd with ⟨rfl, hes⟩ | ⟨rfl, r1, hes⟩
          · obtain ⟨A, c, B, hl, hA⟩ : ∃ A c B, l = A ++ c :: B ∧ A.length = i := ⟨l.take i, l[i], l.drop (i + 1), by simp, by simp; omega⟩
            obtain ⟨cp, x2, y2, hcp, a5, a6, h15, h31c, _, _⟩ := hchild i c (by rw [hl, ← hA]; simp)
            obtain ⟨cn, hcn⟩ : ∃ cn, cn = (hd g c).es.length := ⟨_, rfl⟩
            rw [← hcn] at a6 h15 h31c
            have hfl := flat_one (d := ⟨q', .slice x es.length y, vc, es⟩) (A := A) (B := B) (c := c) (a := a) (b := b) hes (by omega)
            have hsrt2 := I.srt
            have hhas := I.has
            rw [hl] at hsrt2 hhas
            have hsrt2 : Srt (flat (g + 1) (⟨q', .slice x es.length y, vc, es⟩, A ++ c :: B)) := hsrt2
            have hhas : ∃ r0, (k2, r0) ∈ flat (g + 1) (⟨q', .slice x es.length y, vc, es⟩, A ++ c :: B) := hhas
            rw [hfl] at hsrt2 hhas
            obtain ⟨s1, s2, s3⟩ := srt_app.1 hsrt2
            obtain ⟨s4, s5, s6⟩ := srt_app.1 s2
            have hBl : B.length = b.length := by
              have := congrArg List.length hl
              have h2 := congrArg List.length hes
              simp only [List.length_append, List.length_cons] at this h2
              omega
            have hX := bef_inter (A := A.map (flat g)) (by simpa using (show A.length = a.length by omega)) s1 hBef
            have hY := aft_tl (B := B.map (flat g)) (by simpa using hBl) s5 hAft
            obtain ⟨r1, hr1⟩ := hhas
            have hmem : (k2, r1) ∈ flat g c := by
              rcases List.mem_append.1 hr1 with h | h
              · exact absurd (hX _ h) (kl_irrefl k2)
              · rcases List.mem_append.1 h with h | h
                · exact h
                · exact absurd (hY _ h) (kl_irrefl k2)
            have I2 : RmInv w st (rmL k L) bs ah root (g + 1) (⟨q', .slice x es.length y, vc, es⟩, A ++ c :: B) lo fo pre post k2 wc := by rw [← hl]; exact I
            by_cases hf : cn = 15
            · have HC := hidC (fill_tree (lo' := es.length - 1) (a := a) (b := b) I2.spot.ok (by rw [← hcn]; exact hf) hes (by omega) (by have := congrArg List.length hes; simp only [List.length_append] at this; omega))
              rw [hA] at HC
              unfold ptr at HC
              have HE : Hid (∀ w1 d' A' c' B' a' b', Filled wc w1 (es.length - 1) g ⟨q', .slice x es.length y, vc, es⟩ A c B d' A' c' B' a' b' → RmMid w st (rmL k L) bs ah root g d' A' c' B' a' b' fo pre post k2 w1) := by
                intro w1 d' A' c' B' a' b' F
                have hfl2 := flat_one (B := B') (c := c') F.es F.len
                have hs2 := I2.srt
                rw [← F.flat, hfl2] at hs2
                have hm2 := F.keeps _ hmem
                refine I2.mid F.moved F.p (fun lo' h => ⟨F.ok.lies, F.ok.shape.le (by have h1 := F.ok.shape.lo.1; simp only [hd] at h h1; show lo' ≤ d'.es.length; omega), F.ok.apart⟩) F.es F.len F.more (srt_app.1 (srt_app.1 hs2).2.1).1 ⟨r1, hm2⟩ ?_ (by show 1 ≤ es.length; exact hes1)
                rw [← F.flat, hfl2, rm_part hs2 hm2]
              subst hf
              clear I I2 n1 hsh hown hes hBef hAft hl hcB hk4 crest hks hll hcn hcp hvc hN hchild hfl hsrt2 s1 s2 s3 s4 s5 s6 hX hY hr1 hmem
              go_wp2_with (go_at_call 65; refine HC.out.mono ?_; rintro e1 w1 ⟨d', A', c', B', a', b', rfl, F⟩)
              go_meet
              exact ⟨g, k2, d', A', B', c', a', b', rfl, rfl, rfl, F.p, HE.out _ _ _ _ _ _ _ F⟩
            · have hf' : ((cn : Int) == 15) = false := by simp; omega
              have HE : Hid (RmMid w st (rmL k L) bs ah root g ⟨q', .slice x es.length y, vc, es⟩ A c B a b fo pre post k2 wc) := by
                refine I2.mid (Moved.of_grown (World.grownBy.refl wc _) _) rfl (fun lo' h => ⟨I2.spot.ok.lies, I2.spot.ok.shape.le (by show lo' ≤ es.length; have h : lo' + 1 ≤ es.length := h; omega), I2.spot.ok.apart⟩) hes (by omega) (by omega) s4 ⟨r1, hmem⟩ ?_ (by show 1 ≤ es.length; exact hes1)
                rw [hfl, rm_part hsrt2 hmem]
              clear I I2 n1 hsh hown hes hBef hAft hl hcB hk4 crest hks hll hcn hcp hvc hN hchild hfl hsrt2 s1 s2 s3 s4 s5 s6 hX hY hr1 hmem
              go_wp2
              go_meet
              exact ⟨g, k2, _, A, B, c, a, b, rfl, rfl, by rw [hA], rfl, HE.out⟩
          · obtain ⟨A, c, c2, B, hl, hA⟩ : ∃ A c c2 B, l = A ++ c :: c2 :: B ∧ A.length = i := by
              have hil : i < es.length := by rw [hes, ← hai]; simp
              refine ⟨l.take i, l[i], l[i + 1], l.drop (i + 2), ?_, by simp; omega⟩
              conv => lhs; rw [← List.take_append_drop i l, List.drop_eq_getElem_cons (by omega), List.drop_eq_getElem_cons (by omega)]
            obtain ⟨cp, x2, y2, hcp, a5, a6, h15, h31c, hlc, hsc⟩ := hchild i c (by rw [hl, ← hA]; simp)
            obtain ⟨cp2, x5, y5, hcp2, a7, a8, h15b, h31b, hlc2, hsc2⟩ := hchild (i + 1) c2 (by rw [hl, ← hA, List.getElem?_append_right (by omega)]; simp)
            obtain ⟨cn, hcn⟩ : ∃ cn, cn = (hd g c).es.length := ⟨_, rfl⟩
            obtain ⟨cn2, hcn2⟩ : ∃ cn2, cn2 = (hd g c2).es.length := ⟨_, rfl⟩
            rw [← hcn] at a6 h15 h31c
            rw [← hcn2] at a8 h15b h31b
            have hAa : A.length = a.length := by omega
            have hfl := flat_pair (d := ⟨q', .slice x es.length y, vc, es⟩) (A := A) (B := B) (x := c) (y := c2) (a := a) (b := b) (m := (k2, r1)) hes hAa
            have I2 : RmInv w st (rmL k L) bs ah root (g + 1) (⟨q', .slice x es.length y, vc, es⟩, A ++ c :: c2 :: B) lo fo pre post k2 wc := by rw [← hl]; exact I
            have hs2 := I2.srt
            rw [hfl] at hs2
            have hs3 : Srt ((inter a (A.map (flat g)) ++ flat g c) ++ (k2, r1) :: (flat g c2 ++ tl b (B.map (flat g)))) := by simpa using hs2
            have hrm : rmL k2 (flat (g + 1) (⟨q', .slice x es.length y, vc, es⟩, A ++ c :: c2 :: B)) = inter a (A.map (flat g)) ++ (flat g c ++ (flat g c2 ++ tl b (B.map (flat g)))) := by
              rw [hfl]
              have := rm_mid hs3
              simpa using this
            have hsc1 : Srt (flat g c) := (srt_app.1 (srt_app.1 hs2).2.1).1
            have hsc3 : Srt (flat g c2) := (srt_app.1 (srt_cons.1 (srt_app.1 (srt_app.1 hs2).2.1).2.1).2).1
            have b3 : (i : Int) + 1 < (N : Int) := by
              have := congrArg List.length hl
              simp only [List.length_append, List.length_cons] at this
              omega
            by_cases hf : 16 ≤ cn
            · have hf1 : (15 : Int) < (cn : Int) := by omega
              have hCL := last58 g c wc hlc hsc
              rw [← hcp] at hCL
              unfold ptr at hCL
              have HCL := hidC hCL
              have HI : Hid (RmInv w st (rmL k L) bs ah root (g + 1) (⟨q', .slice x es.length y, vc, es⟩, A ++ c :: c2 :: B) lo fo pre post k2 wc) := I2
              have HRM : Hid _ := hrm
              have HS1 : Hid _ := hsc1
              clear I I2 n1 hsh hl hcB hk4 crest hks hll hcn2 hcp hcp2 hvc hN hchild hfl hs2 hs3 hrm hsc1 hsc3 hlc hlc2 hsc hsc2 hCL
              go_upto_region 9 with fail
              go_cut [7] from 20 to 169 (fun v wx => ∃ (s3 : ByteArray) (r3 : Int) (F : List Ent) (E2 : Nat), v = .pointer (some ⟨E2, 0, none⟩) ∧ flat g c = F ++ [(s3, r3)] ∧ BlockAt wx E2 36 [.string s3, .int .u32 r3] ∧ E2 ∉ blocks (g + 1) (⟨q', .slice x es.length y, vc, es⟩, A ++ c :: c2 :: B) ∧ RmInv w st (rmL k L) bs ah root (g + 1) (⟨q', .slice x es.length y, vc, es⟩, A ++ c :: c2 :: B) lo fo pre post k2 wx)
              case first =>
                clear hes hBef hAft hown
                go_wp2_with (go_at_call 58; refine HCL.out.mono ?_; rintro e1 w1 ⟨s3, r3, rfl, ⟨F, hF⟩, hg⟩)
                go_meet
                refine ⟨s3, r3, F, w1.heap.size, rfl, hF, ?_, fun h => absurd (HI.out.spot.ok.lies.lt _ h) (by have := hg.size; omega), HI.out.grown (grown_trans hg ?_)⟩
                · exact blockAt_new w1 36 [.string s3, .int .u32 r3]
                · exact World.grownBy_alloc _ _ _
              case rest =>
                obtain ⟨s3, r3, F, E2, rfl, hF, hE2, hEn, I⟩ := hcut
                clear HCL HI a0 a1 a5 a6 a7 a8
                have n1 := lies_node I.spot.ok.lies
                have hei : es[i]? = some (k2, r1) := by rw [hes, ← hai]; simp
                have hil := (List.getElem?_eq_some_iff.1 hei).1
                simp only [hd] at n1
                obtain ⟨eg, ecap, erest, hve, he1, he2, he3, heB⟩ := n1.entsOpen (by simp only; omega)
                simp only at hve he1 he2 he3 heB
                injection hve with hx _ hy
                subst hx hy
                have hne : E2 ≠ eg := fun e => hEn (by rw [e]; simp [blocks, Hd.own, Value.ownBlock])
                have hne2 : eg ≠ E2 := fun e => hne e.symm
                have a0 := n1.c0
                simp only at a0
                obtain ⟨a7, a8⟩ := ent_cell heB hei
                have f1 := heB.frozen (i * 2); have f2 := heB.frozen (i * 2 + 1)
                have d0 := hE2.cell 0; have d1 := hE2.cell 1
                simp only [List.getElem?_cons_zero, List.getElem?_cons_succ] at d0 d1
                have b4 : (i : Int) < (es.length : Int) := by omega
                have hG := setE_node wc.drew q' eg y vc es _ i s3 r3 (n1.same fun _ _ => rfl) hown hil
                have hset : es.set i (s3, r3) = a ++ (s3, r3) :: b := by
                  rw [hes, ← hai, List.set_append_right _ _ (Nat.le_refl _)]; simp
                have HE : Hid (RmMid w st (rmL k L) bs ah root g ⟨q', .slice (some ⟨eg, 0, none⟩) es.length y, vc, es.set i (s3, r3)⟩ A c (c2 :: B) a ((s3, r3) :: b) fo pre post s3 ((wc.drew.setCell ⟨eg, i * 2, none⟩ (.string s3)).setCell ⟨eg, i * 2 + 1, none⟩ (.int .u32 r3))) := by
                  have I3 := I.grown (grown_drew (World.grownBy.refl wc none))
                  have hlen : (es.set i (s3, r3)).length = es.length := List.length_set ..
                  have hre : ∀ lo', lo' ≤ es.length → _ := fun lo' h => regroup1 (lo' := lo') (d' := ⟨q', .slice (some ⟨eg, 0, none⟩) es.length y, vc, es.set i (s3, r3)⟩) I3.spot.ok hG (by simp only; omega) (by simp only; rw [hlen]; exact I3.spot.ok.shape.2.1) (by simp only; rw [hlen]; exact I3.spot.ok.shape.2.2.1)
                  refine I3.mid (hre 0 (by omega)).2 rfl (fun lo' h => (hre lo' (by have h : lo' + 1 ≤ es.length := h; omega)).1) hset hAa (by omega) HS1.out ⟨r3, by rw [hF]; simp⟩ ?_ (by show 1 ≤ es.length; exact hes1)
                  rw [HRM.out, hF, rm_last (F := F) (e := (s3, r3)) (by have := HS1.out; rw [hF] at this; exact this)]
                  simp [tl, inter_cons]
                clear I n1 hown hG heB he3 erest hset hei hBef hAft hes hF HS1 HRM
                go_upto_region 10 with fail
                go_region
                all_goals
                  go_wp2_with fail
                  go_meet
                  rw [← World.setCell_drew, ← World.setCell_drew]
                  exact ⟨g, s3, _, A, c2 :: B, c, a, (s3, r3) :: b, rfl, rfl, by rw [hA], rfl, HE.out⟩
            · have hf1 : decide ((15 : Int) < (cn : Int)) = false := by simp; omega
              by_cases hf2 : 16 ≤ cn2
              · have hf3 : (15 : Int) < (cn2 : Int) := by omega
                have hCL := first63 g c2 wc hlc2 hsc2
                rw [← hcp2] at hCL
                unfold ptr at hCL
                have HCL := hidC hCL
                have HI : Hid (RmInv w st (rmL k L) bs ah root (g + 1) (⟨q', .slice x es.length y, vc, es⟩, A ++ c :: c2 :: B) lo fo pre post k2 wc) := I2
                have HRM : Hid _ := hrm
                have HS1 : Hid _ := hsc3
                clear I I2 n1 hsh hl hcB hk4 crest hks hll hcn hcp hcp2 hvc hN hchild hfl hs2 hs3 hrm hsc1 hsc3 hlc hlc2 hsc hsc2 hCL
                go_upto_region 12 with fail
                go_cut [8] from 20 to 169 (fun v wx => ∃ (s3 : ByteArray) (r3 : Int) (F : List Ent) (E2 : Nat), v = .pointer (some ⟨E2, 0, none⟩) ∧ flat g c2 = (s3, r3) :: F ∧ BlockAt wx E2 36 [.string s3, .int .u32 r3] ∧ E2 ∉ blocks (g + 1) (⟨q', .slice x es.length y, vc, es⟩, A ++ c :: c2 :: B) ∧ RmInv w st (rmL k L) bs ah root (g + 1) (⟨q', .slice x es.length y, vc, es⟩, A ++ c :: c2 :: B) lo fo pre post k2 wx)
                case first =>
                  clear hes hBef hAft hown
                  go_wp2_with (go_at_call 63; refine HCL.out.mono ?_; rintro e1 w1 ⟨s3, r3, rfl, ⟨F, hF⟩, hg⟩)
                  go_meet
                  refine ⟨s3, r3, F, w1.heap.size, rfl, hF, ?_, fun h => absurd (HI.out.spot.ok.lies.lt _ h) (by have := hg.size; omega), HI.out.grown (grown_trans hg ?_)⟩
                  · exact blockAt_new w1 36 [.string s3, .int .u32 r3]
                  · exact World.grownBy_alloc _ _ _
                case rest =>
                  obtain ⟨s3, r3, F, E2, rfl, hF, hE2, hEn, I⟩ := hcut
                  clear HCL HI a0 a1 a5 a6 a7 a8
                  have n1 := lies_node I.spot.ok.lies
                  have hei : es[i]? = some (k2, r1) := by rw [hes, ← hai]; simp
                  have hil := (List.getElem?_eq_some_iff.1 hei).1
                  simp only [hd] at n1
                  obtain ⟨eg, ecap, erest, hve, he1, he2, he3, heB⟩ := n1.entsOpen (by simp only; omega)
                  simp only at hve he1 he2 he3 heB
                  injection hve with hx _ hy
                  subst hx hy
                  have hne : E2 ≠ eg := fun e => hEn (by rw [e]; simp [blocks, Hd.own, Value.ownBlock])
                  have hne2 : eg ≠ E2 := fun e => hne e.symm
                  have a0 := n1.c0
                  simp only at a0
                  obtain ⟨a7, a8⟩ := ent_cell heB hei
                  have f1 := heB.frozen (i * 2); have f2 := heB.frozen (i * 2 + 1)
                  have d0 := hE2.cell 0; have d1 := hE2.cell 1
                  simp only [List.getElem?_cons_zero, List.getElem?_cons_succ] at d0 d1
                  have b4 : (i : Int) < (es.length : Int) := by omega
                  have hG := setE_node wc.drew q' eg y vc es _ i s3 r3 (n1.same fun _ _ => rfl) hown hil
                  have hset : es.set i (s3, r3) = a ++ (s3, r3) :: b := by
                    rw [hes, ← hai, List.set_append_right _ _ (Nat.le_refl _)]; simp
                  have HE : Hid (RmMid w st (rmL k L) bs ah root g ⟨q', .slice (some ⟨eg, 0, none⟩) es.length y, vc, es.set i (s3, r3)⟩ (A ++ [c]) c2 B (a ++ [(s3, r3)]) b fo pre post s3 ((wc.drew.setCell ⟨eg, i * 2, none⟩ (.string s3)).setCell ⟨eg, i * 2 + 1, none⟩ (.int .u32 r3))) := by
                    have I3 := I.grown (grown_drew (World.grownBy.refl wc none))
                    have hlen : (es.set i (s3, r3)).length = es.length := List.length_set ..
                    have hre : ∀ lo', lo' ≤ es.length → _ := fun lo' h => regroup1 (lo' := lo') (d' := ⟨q', .slice (some ⟨eg, 0, none⟩) es.length y, vc, es.set i (s3, r3)⟩) I3.spot.ok hG (by simp only; omega) (by simp only; rw [hlen]; exact I3.spot.ok.shape.2.1) (by simp only; rw [hlen]; exact I3.spot.ok.shape.2.2.1)
                    have eL : A ++ c :: c2 :: B = (A ++ [c]) ++ c2 :: B := by simp
                    have h0 := (hre 0 (by omega)).2
                    have h1 := fun lo' h => (hre lo' h).1
                    simp only [mk, subs] at h0 h1
                    rw [eL] at h0 h1
                    refine I3.mid (A := A ++ [c]) (by rw [eL]; exact h0) rfl (fun lo' h => h1 lo' (by have h : lo' + 1 ≤ es.length := h; omega)) (by rw [hset]; simp) (by simp [hAa]) (by omega) HS1.out ⟨r3, by rw [hF]; simp⟩ ?_ (by show 1 ≤ es.length; exact hes1)
                    rw [HRM.out, hF, rm_first (F := F) (e := (s3, r3)) (by have := HS1.out; rw [hF] at this; exact this)]
                    rw [List.map_append, inter_app (by simpa using hAa)]
                    simp [inter]
                  clear I n1 hown hG heB he3 erest hset hei hBef hAft hes hF HS1 HRM
                  go_upto_region 13 with fail
                  go_region
                  all_goals
                    go_wp2_with fail
                    go_meet
                    rw [← World.setCell_drew, ← World.setCell_drew]
                    exact ⟨g, s3, _, A ++ [c], B, c2, a ++ [(s3, r3)], b, rfl, rfl, by simp [hA], rfl, HE.out⟩
              · have hf3 : decide ((15 : Int) < (cn2 : Int)) = false := by simp; omega
                have HC := hidC (merge_tree (lo' := a.length + b.length) (a := a) (b := b) (m := (k2, r1)) I2.spot.ok (by rw [← hcn]; omega) (by rw [← hcn2]; omega) hes hAa (Nat.le_refl _))
                rw [hA] at HC
                unfold ptr at HC
                have HE : Hid (∀ w1 d' c', d'.p = q' → d'.es = a ++ b → Ok w1 (a.length + b.length) (g + 1) (d', A ++ c' :: B) → flat g c' = flat g c ++ (k2, r1) :: flat g c2 → (hd g c').es.length = 31 →
                    Moved wc w1 (blocks (g + 1) (⟨q', .slice x es.length y, vc, es⟩, A ++ c :: c2 :: B)) (blocks (g + 1) (d', A ++ c' :: B)) → RmMid w st (rmL k L) bs ah root g d' A c' B a b fo pre post k2 w1) := by
                  intro w1 d' c' h1 h2 h3 h4 h5 h6
                  have hsc' : Srt (flat g c') := by
                    rw [h4]
                    have q1 : Srt (inter a (A.map (flat g)) ++ ((flat g c ++ (k2, r1) :: flat g c2) ++ tl b (B.map (flat g)))) := by simpa using hs2
                    exact (srt_app.1 (srt_app.1 q1).2.1).1
                  refine I2.mid h6 h1 (fun lo' h => ⟨h3.lies, h3.shape.le ?_, h3.apart⟩) h2 hAa (by omega) hsc' ⟨r1, by rw [h4]; simp⟩ ?_ (by show 1 ≤ es.length; exact hes1)
                  · have h : lo' + 1 ≤ es.length := h
                    show lo' ≤ d'.es.length
                    rw [h2]
                    have := congrArg List.length hes
                    simp only [List.length_append, List.length_cons] at this ⊢
                    omega
                  · rw [hrm, h4]
                    rw [h4] at hsc'
                    rw [rm_mid hsc']
                    simp
                clear I I2 n1 hsh hown hes hBef hAft hl hcB hk4 crest hks hll hcn hcn2 hcp hcp2 hvc hN hchild hfl hs2 hs3 hrm hsc1 hsc3 hlc hlc2 hsc hsc2
                go_wp2_with (go_at_call 64; refine HC.out.mono ?_; rintro e1 w1 ⟨rfl, d', c', h1, h2, h3, h4, h5, h6⟩)
                go_meet
                exact ⟨g, k2, d', A, B, c', a, b, rfl, rfl, by rw [hA], h1, HE.out _ _ _ h1 h2 h3 h4 h5 h6⟩
      case rest =>
        clear I hfnd hBef hAft hai
        obtain ⟨g, k3, d, A, B, c, a2, b2, rfl, rfl, rfl, hdp, M⟩ := hcut
        obtain ⟨dp, dve, dvc, des⟩ := d
        simp only at hdp
        subst hdp
        have n1 := M.ok.lies.1
        have hsh := M.ok.shape
        obtain ⟨x3, y3, hv⟩ := ve_slice n1
        simp only at hv
        subst hv
        have a0 := n1.c0; have a1 := n1.c1
        have hks : (A ++ c :: B).map (fun k => (hd g k).p) = kids g A ++ (hd g c).p :: kids g B := by simp [kids]
        simp only [hks] at n1
        obtain ⟨cg, ccap, crest, hvc, hk1, hk3, hk4, hcB⟩ := n1.kidsOpen (by simp only [List.length_append, List.length_cons]; omega)
        simp only at hvc a0 a1
        obtain ⟨N, hN⟩ : ∃ N, N = (kids g A ++ (hd g c).p :: kids g B).length := ⟨_, rfl⟩
        have hNi : A.length < N := by rw [hN]; simp only [List.length_append, List.length_cons, kids_len]; omega
        rw [hvc, ← hN] at a1
        obtain ⟨cp, hcp⟩ : ∃ cp, cp = (hd g c).p := ⟨_, rfl⟩
        have a5 := kid_cell hcB (i := A.length) (p := cp) (by rw [hcp, ← kids_len g A]; simp)
        unfold ptr at a5
        have b1 : (A.length : Int) < (N : Int) := by omega
        have c0 := M.stb.cell 0
        simp only [List.getElem?_cons_zero] at c0
        unfold ptr at c0
        have HCP := (show Hid _ from hcp)
        by_cases hz : fo = [] ∧ des.length = 0
        · obtain ⟨hfo, h0⟩ := hz
          have htop : fo = [] ∧ pre = [] ∧ post = [] ∧ root = dp := by
            rcases M.top with q | ⟨_, d0, ks0, q1, q2, q3, q4⟩
            · exact q
            · have := q4 d0.p (by simp [Hd.own])
              rw [hfo] at this
              simp at this
          have hA0 : A.length = 0 := by
            have h1 := M.len
            have h2 := congrArg List.length M.es
            simp only [List.length_append] at h2
            omega
          have hrt := htop.2.2.2
          rw [hrt] at c0
          have f0 := M.stb.frozen 0
          have hnil := fun w' => run_neq_slice_nil_any (P := Try.prog) w' 87 64 (some ⟨cg, 0, none⟩) N ccap 0 0 Try.underlying87
          have HR : Hid (RmInv w st (rmL k L) bs ah cp g c (min g 1) [] [] [] k3 (wc.setCell ⟨st, 0, none⟩ (.pointer (some ⟨cp, 0, none⟩)))) := by
            rw [HCP.out]
            refine M.shrink h0 htop (fun b hb => Below.heap_setCell _ _ _ _ hb) (by simp) ⟨rfl, rfl, rfl⟩ ?_
            exact M.stb.set 0 _
          rw [hA0] at a5
          rw [h0] at a0
          rw [hA0]
          have b2 : (0 : Int) < (N : Int) := by omega
          have hsd : st ≠ dp := fun e => M.st1 (List.mem_append_right _ (by rw [e]; simp [blocks, Hd.own]))
          have hsc : st ≠ cg := fun e => M.st1 (List.mem_append_right _ (by rw [e]; simp [blocks, Hd.own, hvc, Value.ownBlock]))
          clear M n1 hsh hks hcB hk1 hk3 hk4 crest hvc hN hcp htop h0 hA0 b1 hNi
          go_wp2
          go_roundg g
          case measure => omega
          case rel => exact ⟨c, _, _, _, _, cp, cp, k3, rfl, rfl, HCP.out.symm, HR.out⟩
        · have hdn : Hid (RmInv w st (rmL k L) bs ah root g c 15 _ _ _ k3 wc) := M.down (by
            rcases Nat.eq_zero_or_pos des.length with h | h
            · exact .inl fun e => hz ⟨e, h⟩
            · exact .inr h)
          have hroot : ∃ x4 rn y4, wc.cell? ⟨root, 0, none⟩ = some (.slice x4 rn y4) ∧ 1 ≤ rn := by
            rcases M.top with ⟨q1, q2, q3, q4⟩ | ⟨_, d0, ks0, q1, q2, q3, q4⟩
            · refine ⟨x3, des.length, y3, by rw [q4]; exact a0, ?_⟩
              rcases Nat.eq_zero_or_pos des.length with h | h
              · exact absurd ⟨q1, h⟩ hz
              · exact h
            · obtain ⟨x4, y4, hv4⟩ := ve_slice q1
              exact ⟨x4, d0.es.length, y4, by rw [← q2, q1.c0, hv4], q3⟩
          obtain ⟨x4, rn, y4, a7, hrn⟩ := hroot
          have hz' : ((rn : Int) == 0) = false := by simp; omega
          clear M n1 hsh hks hcB hk1 hk3 hk4 crest hvc hN hcp a0 hz
          go_wp2
          go_roundg g
          case measure => omega
          case rel => exact ⟨c, _, _, _, _, cp, root, k3, rfl, rfl, HCP.out.symm, hdn.out⟩
end Go.Proofs.Qxb6601380a
