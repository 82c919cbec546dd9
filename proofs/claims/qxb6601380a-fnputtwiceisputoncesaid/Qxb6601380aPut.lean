/-
  put (43).
-/
import Derived.Test.Qxb6601380aPutA
import Derived.Test.Qxb6601380aSrch
import Derived.Deep.LoopGhost
import Derived.Deep.DeepCutAuto
import Derived.BigQuiet
namespace Go.Proofs.Qxb6601380a
open Go.RowKit

theorem inter_sub : ∀ (es : List Ent) (ks : List (List Ent)), es.length ≤ ks.length → es.Sublist (inter es ks)
  | [], _, _ => List.nil_sublist _
  | _ :: _, [], h => by simp at h
  | e :: es, x :: ks, h => by
    have := inter_sub es ks (by simpa using h)
    exact (List.Sublist.cons_cons e this).trans (List.sublist_append_right x _)

theorem es_sub {h : Nat} {t : T h} (hc : Cnt h (hd h t).es.length (subs h t).length) : (hd h t).es.Sublist (flat h t) := by
  rw [flat_subs]
  cases h with
  | zero => exact List.Sublist.refl _
  | succ h => exact inter_sub _ _ (by rw [List.length_map]; simp only [Cnt] at hc; omega)

theorem hd_succ (g : Nat) (d : Hd) (l : List (T g)) : hd (g + 1) (d, l) = d := rfl

theorem hfield36 (s : ByteArray) (r : Int) (w' : World) : (Instr.field 36 (.agg #[.string s, .int .u32 r]) 0).run Try.prog w' = .ok (.string s) w' := by kernel_rfl

set_option linter.unusedSimpArgs false in
set_option maxHeartbeats 8000000 in
set_option maxRecDepth 100000 in
theorem put43 (w : World) (st : Nat) (L : List Ent) (bs : List Nat) (k : ByteArray) (r : Int) (hT : TreeAt w st L bs) (hL : L.length ≤ 1000000000) :
    Calls Try.prog 43 #[ptr st, .agg #[.string k, .int .u32 r]] w fun e w' => e = .returned (.tuple #[]) ∧ ∃ bs', TreeAt w' st (putL k r L) bs' ∧ Moved w w' bs bs' := by
  obtain ⟨⟨H, u, ah, hst, hok, hfl, hsu, hbs⟩, hsrt⟩ := hT
  have n := lies_node hok.lies
  obtain ⟨rp, hrp⟩ : ∃ rp, rp = (hd H u).p := ⟨_, rfl⟩
  rw [← hrp] at hst
  obtain ⟨x, y, hve⟩ := ve_slice n
  have a1 := n.c0
  rw [← hrp, hve] at a1
  have l1 : rp < w.heap.size := by rw [hrp]; exact n.node.lt
  have l2 : st < w.heap.size := hst.lt
  have c1 := hst.cell 0
  simp only [List.getElem?_cons_zero] at c1
  unfold ptr at c1 ⊢
  obtain ⟨en, hen⟩ : ∃ en, en = (hd H u).es.length := ⟨_, rfl⟩
  rw [← hen] at a1
  have h31 := (hok.shape.lo).2
  rw [← hen] at h31
  have HRP := (show Hid _ from hrp)
  have HEN := (show Hid _ from hen)
  have HVE := (show Hid _ from hve)
  have HFL := (show Hid _ from hfl)
  clear hrp hen hve hfl
  go_enter Try.func43, Try.ntmps43
  go_upto_if 17 with fail
  go_cut [] (fun wx => Inv0 w st L bs k r ah wx)
  case first =>
    by_cases hf : en = 31
    · have HC := hidC (put_root w st L bs k r H u ah rp hok HFL.out hst HRP.out hsu hbs (HEN.out ▸ hf))
      subst hf
      have f1 := hst.frozen 0
      have l3 : st < w.heap.size + 1 := by omega
      have l4 : st < w.heap.size + 1 + 1 := by omega
      unfold ptr at HC
      clear hok hsu hbs n hst
      go_wp2_with (go_at_call 57; refine HC.out.mono ?_; rintro e1 w1 ⟨rfl, hi⟩)
      go_meet
      exact hi
    · have hf' : ((en : Int) == 31) = false := by simp; omega
      have hi : Inv0 w st L bs k r ah (w.alloc (Obj.cells #[Value.string k, Value.int IntKind.u32 r] 36)) := by
        refine ⟨H, u, hok.same fun b hb => Below.heap_alloc _ _ _ (hok.lies.lt b hb), by rw [← HEN.out]; omega, HFL.out, ?_, blockAt_new w 36 [.string k, .int .u32 r], hsu, fun h => Nat.lt_irrefl _ (hok.lies.lt _ h), ?_⟩
        · rw [← HRP.out]
          exact hst.alloc _
        · refine Moved.wide (Moved.of_grown (World.grownBy_alloc _ _ _) bs) (fun _ h => h) fun b hb => .inr ((hbs b).2 (List.mem_cons.1 hb))
      clear hok hsu hbs n hst
      go_wp2_with fail
      go_meet
      exact hi
  case rest =>
    obtain ⟨H', u', o, h30, hfl, hst', hE, hsu', hEu, hm⟩ := hcut
    clear hok hsu hbs n hst c1 a1 HRP HEN HVE HFL l1 l2 h31
    obtain ⟨rp, hrp⟩ : ∃ rp, rp = (hd H' u').p := ⟨_, rfl⟩
    have n := lies_node o.lies
    obtain ⟨x, y, hve⟩ := ve_slice n
    have a1 := n.c0
    obtain ⟨en, hen⟩ : ∃ en, en = (hd H' u').es.length := ⟨_, rfl⟩
    rw [← hrp, hve, ← hen] at a1
    rw [← hrp] at hst'
    have c1 := hst'.cell 0
    have d1 := hE.cell 0
    simp only [List.getElem?_cons_zero] at c1 d1
    have l1 : rp < wc.heap.size := by rw [hrp]; exact n.node.lt
    have l2 : st < wc.heap.size := hst'.lt
    have HI : Hid (∀ wx, wc.grownBy wx none → Inv0 w st L bs k r ah wx) := by
      intro wx hg
      refine ⟨H', u', o.same fun b hb => hg.block b (o.lies.lt b hb) (by simp), h30, hfl, ?_, hE.grown hg (by simp), hsu', hEu, hm.grown hg⟩
      rw [← hrp]
      exact hst'.grown hg (by simp)
    have HE : Hid (∀ w1, wc.drew.grownBy w1 none → w1.cell? ⟨w.heap.size, 0, none⟩ = some (.string k)) := by
      intro w1 hg
      rw [((hE.same (w' := wc.drew) rfl).grown hg (by simp)).cell]
      rfl
    unfold ptr at c1
    have HRP := (show Hid _ from hrp)
    have HEN := (show Hid _ from hen)
    have HFL := (show Hid _ from hfl)
    have HO : Hid _ := o
    clear hrp hen hve hfl hm hsu' hEu hst' hE h30
    go_upto_region 4 with fail
    go_cut [4] (fun v wx => ∃ b : Bool, v = .bool b ∧ (b = true → Bef L k) ∧ Inv0 w st L bs k r ah wx)
    case first =>
      rcases Nat.eq_zero_or_pos en with h0 | h0
      · subst h0
        have hd0 : decide ((0 : Int) < (0 : Int)) = false := by decide
        clear n o HO
        go_quiet (fail)
        go_wp2_with fail
        go_meet
        exact ⟨false, rfl, by simp, HI.out _ (grown_drewN (World.grownBy.refl wc _) _)⟩
      · have hd0 : (0 : Int) < (en : Int) := by omega
        have HC := hidC (last58 H' u' wc.drew (HO.out.lies.same fun _ _ => rfl) (HO.out.shape.le (by rw [← HEN.out]; exact h0)))
        rw [← HRP.out] at HC
        unfold ptr at HC
        clear n o HO
        have hfd := hfield36
        go_region_with (go_at_call 58; refine HC.out.mono ?_; rintro e1 w1 ⟨s1, r1, rfl, hF, hg⟩; have d2 := HE.out w1 hg)
        all_goals
          go_wp2_with fail
          go_meet
          refine ⟨_, rfl, fun hb => ?_, HI.out _ (grown_trans (grown_drew (World.grownBy.refl wc _)) hg)⟩
          obtain ⟨F, hF⟩ := hF
          rw [HFL.out] at hF
          have hk := gtr_kl hb
          rw [hF] at hsrt ⊢
          exact bef_app.2 ⟨fun z hz => kl_trans ((srt_app.1 hsrt).2.2 z hz _ (List.mem_singleton.2 rfl)) hk, bef_cons.2 ⟨hk, bef_nil⟩⟩
    case rest =>
      obtain ⟨lb, rfl, hlast, H2, u2, o2, h30, hfl, hst', hE, hsu', hEu, hm⟩ := hcut
      clear HI HE HRP HEN HFL HO n o a1 c1 d1 l1 l2 rp
      obtain ⟨rp, hrp⟩ : ∃ rp, rp = (hd H2 u2).p := ⟨_, rfl⟩
      rw [← hrp] at hst'
      have HP : Hid (PutInv w st L bs k r ah rp lb H2 u2 (min H2 1) [] [] [] wc) := by
        refine ⟨by rw [hrp]; exact spot_top o2, hst', hE, by simpa using hsu', by simpa using hEu, by simpa using hm, by rw [hfl]; exact hsrt, by rw [hfl]; simp, by rw [hfl]; simp, by rw [hfl]; exact hlast⟩
      have c1 := hst'.cell 0
      simp only [List.getElem?_cons_zero] at c1
      unfold ptr at c1
      have HRP := (show Hid _ from hrp)
      clear hrp hst' hE hm hfl o2 hsu' hEu hlast
      go_wp2
      go_loopg [5] H2 (fun gk x wr => ∃ (t : T gk) (lo : Nat) (fo : List Nat) (pre post : List Ent) (q : Nat), x = .pointer (some ⟨q, 0, none⟩) ∧ (hd gk t).p = q ∧ (hd gk t).es.length ≤ 30 ∧ PutInv w st L bs k r ah rp lb gk t lo fo pre post wr)
      case atStart => exact ⟨u2, _, _, _, _, rp, rfl, HRP.out.symm, h30, HP.out⟩
      case round =>
        obtain ⟨t, lo, fo, pre, post, q, rfl, hq, hroom, I⟩ := hrel
        clear HP HRP c1 h30
        obtain ⟨q', ve, vc, es, l, rfl⟩ := mk_open t
        rw [hd_mk] at hq
        simp only at hq
        subst hq
        have n := lies_node I.spot.ok.lies
        have hsh := shape_subs.1 I.spot.ok.shape
        rw [hd_mk, kps_mk] at n
        simp only [hd_mk, subs_mk] at hsh
        simp only [hd_mk] at hroom
        obtain ⟨x, y, hve⟩ := ve_slice n
        simp only at hve
        subst hve
        have a0 := n.c0; have a1 := n.c1
        have d0 := I.eb.cell 0; have d1 := I.eb.cell 1
        simp only [List.getElem?_cons_zero, List.getElem?_cons_succ] at d0 d1
        simp only at a0 a1
        have l1 : q' < wr.heap.size := n.node.lt
        have l2 : w.heap.size < wr.heap.size := I.eb.lt
        have HI : Hid _ := I
        have HN : Hid _ := n
        have HSH : Hid _ := hsh
        clear I n hsh
        go_upto_if 63 with fail
        go_cut [6, 7] from 57 to 158 (fun vi vf wx => ∃ (i : Nat) (f : Bool), vi = .int .i64 i ∧ vf = .bool f ∧ Fnd es k i f ∧ PutInv w st L bs k r ah rp lb gk (mk gk ⟨q', .slice x es.length y, vc, es⟩ l) lo fo pre post wx)
        case first =>
          have hsub := es_sub (t := mk gk ⟨q', .slice x es.length y, vc, es⟩ l) (by simp only [hd_mk, subs_mk]; exact HSH.out.2.2.1)
          simp only [hd_mk] at hsub
          cases lb with
          | true =>
            have hB : Bef es k := fun z hz => HI.out.last rfl z (hsub.subset hz)
            clear HN HSH hsub
            go_wp2_with fail
            go_meet
            exact ⟨es.length, false, rfl, rfl, ⟨es, [], rfl, hB, aft_nil, .inl ⟨rfl, by simp⟩⟩, HI.out⟩
          | false =>
            have HC := hidC (bsf59 (.slice x es.length y) es k wr.drew (ownsRow_same HN.out.ents fun _ _ => rfl) (List.Pairwise.sublist hsub HI.out.srt) (by omega))
            clear HN HSH hsub
            go_upto_region 8 with fail
            go_region_with (go_at_call 59; refine HC.out.mono ?_; rintro e1 w1 ⟨i, f, rfl, hF, hg⟩)
            all_goals
              go_wp2_with fail
              go_meet
              exact ⟨i, f, rfl, rfl, hF, HI.out.grown (grown_trans (grown_drew (World.grownBy.refl wr _)) hg)⟩
        case rest =>
          obtain ⟨i, f, rfl, rfl, ⟨a, b, hai, hBef, hAft, hfnd⟩, I⟩ := hcut
          clear HN HSH HI a0 a1 d0 d1 l1 l2
          have n := lies_node I.spot.ok.lies
          have hsh := shape_subs.1 I.spot.ok.shape
          rw [hd_mk, kps_mk] at n
          simp only [hd_mk, subs_mk] at hsh
          have a0 := n.c0; have a1 := n.c1
          have d0 := I.eb.cell 0; have d1 := I.eb.cell 1
          simp only [List.getElem?_cons_zero, List.getElem?_cons_succ] at d0 d1
          simp only at a0 a1
          have l1 : q' < wc.heap.size := n.node.lt
          have l2 : w.heap.size < wc.heap.size := I.eb.lt
          have hown : (⟨q', .slice x es.length y, vc, es⟩ : Hd).own.Nodup := by
            have := I.spot.ok.apart
            rw [blocks_subs, hd_mk] at this
            exact (List.nodup_append.1 this).1
          rcases hfnd with ⟨rfl, hes⟩ | ⟨rfl, r0, hes⟩
          · cases gk with
            | zero =>
              have hl0 := sub0 l
              subst hl0
              have hlc := n.leaf rfl
              simp only at hlc
              subst hlc
              have hnil := fun w' => Lib.run_eql_slice_nil (P := Try.prog) w' 87 64 none 0 0 0 0 Try.underlying87
              have hW : wc.grownBy (wc.alloc (Obj.cells #[Value.string k, Value.int IntKind.u32 r] 36)).drew none := grown_drew (World.grownBy_alloc _ _ _)
              have hy : BlockAt (wc.alloc (Obj.cells #[Value.string k, Value.int IntKind.u32 r] 36)).drew wc.heap.size 36 [.string k, .int .u32 r] := blockAt_new wc 36 [.string k, .int .u32 r]
              have IW := I.grown hW
              have nW := lies_node IW.spot.ok.lies
              rw [hd_mk, kps_mk] at nW
              have HC := hidC (insE_node (wc.alloc (Obj.cells #[Value.string k, Value.int IntKind.u32 r] 36)).drew q' (.slice x es.length y) (.slice none 0 0) es [] i wc.heap.size k r nW hown (by rw [hes, ← hai]; simp) (by omega) hy (fun h => Nat.lt_irrefl _ (n.lt _ h)))
              have HE : Hid (∀ v w1, Grp (wc.alloc (Obj.cells #[Value.string k, Value.int IntKind.u32 r] 36)).drew (owns [(⟨q', .slice x es.length y, .slice none 0 0, es⟩, [])]) w1 [(⟨q', v, .slice none 0 0, es.take i ++ (k, r) :: es.drop i⟩, [])] → PutEnd w st L bs k r ah rp (L.length + 1) w1) := by
                intro v w1 gg
                have hes' : es.take i ++ (k, r) :: es.drop i = a ++ (k, r) :: b := by rw [hes, ← hai]; simp
                rw [hes'] at gg
                have hlen : (a ++ (k, r) :: b).length = es.length + 1 := by rw [hes]; simp; omega
                obtain ⟨o', m'⟩ := regroup1 (lo' := lo) (d' := ⟨q', v, .slice none 0 0, a ++ (k, r) :: b⟩) IW.spot.ok (by rw [hd_mk, kps_mk]; exact gg) (by simp only; rw [hlen]; omega) (by simp only; rw [hlen]; omega) trivial
                refine IW.laid m' o' (by rw [hd_mk, hd_mk]) ?_ _ ?_
                · show a ++ (k, r) :: b = putL k r es
                  rw [hes, putL_new hBef hAft]
                · show (a ++ (k, r) :: b).length + L.length = es.length + (L.length + 1)
                  rw [hlen]; omega
              clear I IW n nW hsh hown hy hW hes hBef hAft
              go_upto_region 12 with fail
              go_cut [] from 57 to 158 (fun wx => PutEnd w st L bs k r ah rp (L.length + 1) wx)
              case first =>
                go_region_with (go_at_call 61; refine HC.out.mono ?_; rintro e1 w1 ⟨g1, x1, c1, rfl, c3, f3, kk⟩)
                all_goals
                  go_wp2_with fail
                  go_meet
                  exact HE.out _ _ kk
              case rest =>
                have c2 := hcut.stb.cell 1
                have f2 := hcut.stb.frozen 1
                simp only [List.getElem?_cons_zero, List.getElem?_cons_succ] at c2
                have bw : IntKind.i64.wrap ((L.length : Int) + 1) = (L.length : Int) + 1 := by rw [IntKind.wrap_i64]; omega
                have l3 : L.length ≤ 4000000000 := by omega
                clear HC HE a0 a1 d0 d1 l1 l2
                go_wp2
                (try simp only [Exit.inBlock, Exit.then])
                refine bodyPost_ret (results_none rfl _ _ _) rfl ⟨rfl, ?_⟩
                exact hcut.done hsrt (fun b hb => Below.heap_setCell _ _ _ _ hb) (by simp) ⟨rfl, rfl, rfl⟩ (hcut.stb.set 1 _)
            | succ g =>
              change List (T g) at l
              have hll : l.length = es.length + 1 := hsh.2.2.1
              have hil : i < l.length := by rw [hll, hes, ← hai]; simp; omega
              obtain ⟨A, c, B, hl, hA⟩ : ∃ A c B, l = A ++ c :: B ∧ A.length = i := ⟨l.take i, l[i], l.drop (i + 1), by simp, by simp; omega⟩
              have hks : l.map (sp (g + 1)) = kids g l := rfl
              rw [hks] at n
              obtain ⟨cg, ccap, crest, hvc, hk1, hk2, hk3, hcB⟩ := n.kidsOpen (by rw [kids_len]; omega)
              simp only [kids_len] at hvc
              rw [hvc] at a1
              obtain ⟨cp, hcp⟩ : ∃ cp, cp = (hd g c).p := ⟨_, rfl⟩
              have a5 := kid_cell hcB (i := i) (p := cp) (by rw [hl, hcp, ← hA, ← kids_len g A, kids_app, kids_cons]; simp)
              unfold ptr at a5
              have hct : c ∈ l := by rw [hl]; simp
              have nc := lies_node (I.spot.ok.lies.2 c hct)
              have hcs := (I.spot.ok.shape.2.2.2 c hct).lo
              obtain ⟨x2, y2, hve2⟩ := ve_slice nc
              obtain ⟨cn, hcn⟩ : ∃ cn, cn = (hd g c).es.length := ⟨_, rfl⟩
              have a6 := nc.c0
              rw [← hcp, hve2, ← hcn] at a6
              rw [← hcn] at hcs
              have hnil := fun w' => Lib.run_eql_slice_nil (P := Try.prog) w' 87 64 (some ⟨cg, 0, none⟩) l.length ccap 0 0 Try.underlying87
              have b1 : (i : Int) < (l.length : Int) := by omega
              obtain ⟨N, hN⟩ : ∃ N, N = l.length := ⟨_, rfl⟩
              rw [← hN] at a1 hnil b1
              have I2 : PutInv w st L bs k r ah rp lb (g + 1) (⟨q', .slice x es.length y, vc, es⟩, A ++ c :: B) lo fo pre post wc := by rw [← hl]; exact I
              by_cases hf : cn = 31
              · have HC := hidC (split_tree (a := a) (b := b) I2.spot.ok (by rw [← hcn]; exact hf) hroom hes (by omega))
                rw [hA] at HC
                unfold ptr at HC
                have HS : Hid (∀ w' d' c1 m c2, d'.p = q' → d'.es = a ++ m :: b → Ok w' lo (g + 1) (d', A ++ c1 :: c2 :: B) → flat g c = flat g c1 ++ m :: flat g c2 →
                    Moved wc w' (blocks (g + 1) (⟨q', .slice x es.length y, vc, es⟩, A ++ c :: B)) (blocks (g + 1) (d', A ++ c1 :: c2 :: B)) → PutInv w st L bs k r ah rp lb (g + 1) (d', A ++ c1 :: c2 :: B) lo fo pre post w') := by
                  intro w' d' c1 m c2 h1 h2 h3 h4 h5
                  refine I2.same h5 h3 h1 ?_
                  rw [flat_pair h2 (by omega), flat_one (a := a) (b := b) hes (by omega), h4]
                  simp
                subst hf
                clear I I2 n nc hsh hown hes hl hct hcB hk3 crest hks hll hve2 hcn hcp hvc hN hil hcs
                go_upto_region 15 with fail
                go_cut [] from 57 to 158 (fun wx => ∃ d' c1 m c2, d'.p = q' ∧ d'.es = a ++ m :: b ∧ (hd g c1).es.length = 15 ∧ (hd g c2).es.length = 15 ∧ PutInv w st L bs k r ah rp lb (g + 1) (d', A ++ c1 :: c2 :: B) lo fo pre post wx)
                case first =>
                  go_wp2_with (go_at_call 57; refine HC.out.mono ?_; rintro e1 w1 ⟨rfl, d', c1, m, c2, h1, h2, h3, h4, h5, h6, h7⟩)
                  go_meet
                  exact ⟨d', c1, m, c2, h1, h2, h5, h6, HS.out _ _ _ _ _ h1 h2 h3 h4 h7⟩
                case rest =>
                  obtain ⟨⟨p2, ve2, vc2, es2⟩, c1, ⟨ms, mr⟩, c2, hp2, hes2, h15a, h15b, I3⟩ := hcut
                  simp only at hp2 hes2
                  subst hp2
                  clear HC HS a0 a1 a5 a6 d0 d1 l1 l2
                  have n := lies_node I3.spot.ok.lies
                  have a0 := n.c0
                  have d0 := I3.eb.cell 0
                  simp only [List.getElem?_cons_zero, List.getElem?_cons_succ] at d0
                  have hei : es2[i]? = some (ms, mr) := by rw [hes2, ← hai]; simp
                  have hil := (List.getElem?_eq_some_iff.1 hei).1
                  obtain ⟨eg, ecap, erest, hve, he1, he2, he3, heB⟩ := n.entsOpen (by simp only [hd_succ]; omega)
                  simp only [hd_succ] at hve he1 he2 he3 heB a0
                  subst hve
                  obtain ⟨a7, a8⟩ := ent_cell heB hei
                  have b2 : (i : Int) < (es2.length : Int) := by omega
                  have l1 : p2 < wc.heap.size := n.node.lt
                  have l2 : w.heap.size < wc.heap.size := I3.eb.lt
                  have HC := hidC (byn60 ms k mr wc.drew)
                  have HI : Hid (PutInv w st L bs k r ah rp lb (g + 1) (⟨p2, .slice (some ⟨eg, 0, none⟩) es2.length ecap, vc2, es2⟩, A ++ c1 :: c2 :: B) lo fo pre post wc) := I3
                  clear I3 n heB he3 erest
                  go_upto_region 16 with fail
                  go_cut [8] from 57 to 158 (fun v wx => v = .int .i64 (kc ms k) ∧ PutInv w st L bs k r ah rp lb (g + 1) (⟨p2, .slice (some ⟨eg, 0, none⟩) es2.length ecap, vc2, es2⟩, A ++ c1 :: c2 :: B) lo fo pre post wx)
                  case first =>
                    clear hei hes2 hBef hAft
                    go_region_with (go_at_call 60; refine HC.out.mono ?_; rintro e1 w1 ⟨rfl, hg⟩)
                    all_goals
                      go_wp2_with fail
                      go_meet
                      exact ⟨rfl, HI.out.grown (grown_trans (grown_drew (World.grownBy.refl wc _)) hg)⟩
                  case rest =>
                    obtain ⟨rfl, I⟩ := hcut
                    clear HC HI a0 d0 a7 a8 l1 l2
                    have n := lies_node I.spot.ok.lies
                    have a0 := n.c0; have a1 := n.c1
                    have hks : kps (g + 1) (⟨p2, .slice (some ⟨eg, 0, none⟩) es2.length ecap, vc2, es2⟩, A ++ c1 :: c2 :: B) = kids g A ++ (hd g c1).p :: (hd g c2).p :: kids g B := by
                      simp [kps, kids]
                    rw [hks] at n
                    obtain ⟨cg, ccap, crest, hvc, hk1, hk2, hk3, hcB⟩ := n.kidsOpen (by simp only [List.length_append, List.length_cons]; omega)
                    simp only [hd_succ] at hvc a0 a1
                    obtain ⟨N, hN⟩ : ∃ N, N = (kids g A ++ (hd g c1).p :: (hd g c2).p :: kids g B).length := ⟨_, rfl⟩
                    have hNi : i + 1 < N := by rw [hN, ← hA]; simp only [List.length_append, List.length_cons, kids_len]; omega
                    rw [hvc, ← hN] at a1
                    obtain ⟨p5, hp5⟩ : ∃ p5, p5 = (hd g c1).p := ⟨_, rfl⟩
                    obtain ⟨p6, hp6⟩ : ∃ p6, p6 = (hd g c2).p := ⟨_, rfl⟩
                    have a5 := kid_cell hcB (i := i) (p := p5) (by rw [hp5, ← hA, ← kids_len g A]; simp)
                    have a6 := kid_cell hcB (i := i + 1) (p := p6) (by rw [hp6, ← hA, ← kids_len g A, List.getElem?_append_right (by omega)]; simp)
                    unfold ptr at a5 a6
                    have b1 : (i : Int) < (N : Int) := by omega
                    have b3 : (i : Int) + 1 < (N : Int) := by omega
                    have hb31 : es2.length ≤ 31 := I.spot.ok.shape.2.1
                    have b4 : i ≤ 4000000000 := by omega
                    have hA' : A.length = a.length := by omega
                    rcases kc_tri ms k with ⟨hk, hlt⟩ | ⟨hk, rfl⟩ | ⟨hk, hlt⟩
                    · have hdn : Hid (PutInv w st L bs k r ah rp lb g c2 15 _ _ _ wc) := PutInv.down (A := A ++ [c1]) (B := B) (a := a ++ [(ms, mr)]) (b := b) (by simpa using I) (by simpa using hes2) (by simpa using hA') (bef_app.2 ⟨hBef, bef_cons.2 ⟨hlt, bef_nil⟩⟩) hAft
                      rw [hk]
                      have HP6 := (show Hid _ from hp6)
                      clear hk I n hks hcB hk3 crest hvc hN hes2 hei hp5 hp6 hBef hAft
                      go_wp2
                      go_roundg g
                      case measure => omega
                      case rel => exact ⟨c2, _, _, _, _, p6, rfl, HP6.out.symm, by omega, hdn.out⟩
                    · have hil2 : i < es2.length := hil
                      have hown : (⟨p2, .slice (some ⟨eg, 0, none⟩) es2.length ecap, vc2, es2⟩ : Hd).own.Nodup := by
                        exact (List.nodup_append.1 (show ((⟨p2, .slice (some ⟨eg, 0, none⟩) es2.length ecap, vc2, es2⟩ : Hd).own ++ (A ++ c1 :: c2 :: B).flatMap (blocks g)).Nodup from I.spot.ok.apart)).1
                      simp only [hd_succ] at n
                      obtain ⟨erest, he3, heB⟩ := own_at n.ents
                      obtain ⟨a7, a8⟩ := ent_cell heB hei
                      have f2 := heB.frozen (i * 2 + 1)
                      have d1 := I.eb.cell 1
                      simp only [List.getElem?_cons_zero, List.getElem?_cons_succ] at d1
                      have hG := setR_node wc.drew p2 eg ecap vc2 es2 (kids g A ++ (hd g c1).p :: (hd g c2).p :: kids g B) i ms r mr (n.same fun _ _ => rfl) hown hei
                      have hset : es2.set i (ms, r) = a ++ (ms, r) :: b := by
                        rw [hes2, ← hai, List.set_append_right _ _ (Nat.le_refl _)]; simp
                      have HE : Hid (PutEnd w st L bs ms r ah rp L.length (wc.drew.setCell ⟨eg, i * 2 + 1, none⟩ (.int .u32 r))) := by
                        refine (I.grown (grown_drew (World.grownBy.refl wc _))).old (d' := ⟨p2, .slice (some ⟨eg, 0, none⟩) es2.length ecap, vc2, es2.set i (ms, r)⟩) (a := a) (b := b) (r0 := mr) hes2 hset rfl ?_
                        rw [hks, hd_succ]
                        exact hG
                      rw [hk]
                      clear hk I n hown hG heB he3 erest hset hei hBef hAft hks hcB hk3 crest hvc hN hes2 hp5 hp6
                      go_wp2
                      go_region
                      all_goals
                        go_wp2
                        (try simp only [Exit.inBlock, Exit.then])
                        refine bodyPost_ret (results_none rfl _ _ _) rfl ⟨rfl, ?_⟩
                        rw [← World.setCell_drew]
                        exact HE.out.done hsrt (fun _ _ => rfl) rfl ⟨rfl, rfl, rfl⟩ HE.out.stb
                    · have hdn : Hid (PutInv w st L bs k r ah rp lb g c1 15 _ _ _ wc) := PutInv.down (A := A) (B := c2 :: B) (a := a) (b := (ms, mr) :: b) I hes2 hA' hBef (aft_cons.2 ⟨hlt, hAft⟩)
                      rw [hk]
                      have HP5 := (show Hid _ from hp5)
                      clear hk I n hks hcB hk3 crest hvc hN hes2 hei hp5 hp6 hBef hAft
                      go_wp2
                      go_roundg g
                      case measure => omega
                      case rel => exact ⟨c1, _, _, _, _, p5, rfl, HP5.out.symm, by omega, hdn.out⟩
              · have hf' : ((cn : Int) == 31) = false := by simp; omega
                have hdn : Hid ((hd g c).es.length ≤ 30 ∧ PutInv w st L bs k r ah rp lb g c 15 (fo ++ ((⟨q', .slice x es.length y, vc, es⟩ : Hd).own ++ A.flatMap (blocks g) ++ B.flatMap (blocks g))) (pre ++ inter a (A.map (flat g))) (tl b (B.map (flat g)) ++ post) wc) :=
                  ⟨by rw [← hcn]; omega, I2.down hes (by omega) hBef hAft⟩
                have HCP := (show Hid _ from hcp)
                clear I I2 n nc hsh hown hes hBef hAft hl hct hcB hk3 crest hks hll hve2 hcn hcp hvc hN hil hai
                go_wp2
                go_roundg g
                case measure => omega
                case rel => exact ⟨c, _, _, _, _, cp, rfl, HCP.out.symm, hdn.out.1, hdn.out.2⟩
          · have hei : es[i]? = some (k, r0) := by rw [hes, ← hai]; simp
            have hil := (List.getElem?_eq_some_iff.1 hei).1
            obtain ⟨eg, ecap, erest, hve, he1, he2, he3, heB⟩ := n.entsOpen (by simp only; omega)
            simp only at hve he1 he2 he3 heB
            injection hve with hx _ hy
            subst hx hy
            obtain ⟨a7, a8⟩ := ent_cell heB hei
            have f2 := heB.frozen (i * 2 + 1)
            have b1 : (i : Int) < (es.length : Int) := by omega
            have hG := setR_node wc.drew q' eg y vc es (l.map (sp gk)) i k r r0 (n.same fun _ _ => rfl) hown hei
            have hset : es.set i (k, r) = a ++ (k, r) :: b := by
              rw [hes, ← hai, List.set_append_right _ _ (Nat.le_refl _)]; simp
            have HE : Hid (PutEnd w st L bs k r ah rp L.length (wc.drew.setCell ⟨eg, i * 2 + 1, none⟩ (.int .u32 r))) := by
              refine (I.grown (grown_drew (World.grownBy.refl wc _))).old (d' := ⟨q', .slice (some ⟨eg, 0, none⟩) es.length y, vc, es.set i (k, r)⟩) (a := a) (b := b) (r0 := r0) (by rw [hd_mk]; exact hes) hset (by rw [hd_mk]) ?_
              rw [hd_mk, kps_mk]
              exact hG
            clear I n hsh hown hG heB he3 erest hes hset hei hBef hAft
            go_wp2
            go_region
            all_goals
              go_wp2
              (try simp only [Exit.inBlock, Exit.then])
              refine bodyPost_ret (results_none rfl _ _ _) rfl ⟨rfl, ?_⟩
              rw [← World.setCell_drew]
              exact HE.out.done hsrt (fun _ _ => rfl) rfl ⟨rfl, rfl, rfl⟩ HE.out.stb
end Go.Proofs.Qxb6601380a
