/-
  unlzw (13).
-/
import Derived.Test.Qxb6601318aW4
import Derived.Test.Qxb6601318aW5
import Derived.Test.Qxb6601318aDecLaws2
import Derived.Deep.DeepCutAuto
import Derived.Deep.RegionWith
import Derived.Deep.CutBlock
namespace Go.Proofs.Qxb6601318a
open Go.RowKit

theorem elem22 : Try.prog.underlying 22 = some (.slice (Try.prog.elem 22)) := by kernel_rfl
theorem sizeOf22 (w : World) : (Go.sizeOf (Try.prog.elem 22)).run Try.prog w = .ok 1 w := by
  obtain ⟨i0, hi, hz0, hz1, hz2⟩ := info_parts Try.info5
  have e : Try.prog.elem 22 = 5 := by kernel_rfl
  rw [e]
  simp [Go.sizeOf, typeInfo, hi, hz1]
theorem slice_to (g n m cap : Nat) (hm : n + m ≤ cap) (hc : ¬ cap = 0) (w : World) :
    (Instr.slice 22 (.slice (some ⟨g, 0, none⟩) n cap) none (some (.int .i64 ((n : Int) + (m : Int)))) none).run Try.prog w = .ok (.slice (some ⟨g, 0, none⟩) (n + m) cap) w := by
  rw [run_slice_h w 22 _ _ _ elem22 .i64 _ (by omega) (by omega), sizeOf22]
  have e : ((n : Int) + (m : Int)).toNat = n + m := by omega
  simp [Result.andThen, sliced, e, hc, Addr.add_lit]
theorem sliceAt_to (g n m cap : Nat) (hm : n + m ≤ cap) (hc : ¬ cap = 0) (w : World) :
    (Instr.sliceAt 22 (.slice (some ⟨g, 0, none⟩) n cap) none (some (.int .i64 ((n : Int) + (m : Int)))) none).run Try.prog w = .ok (.slice (some ⟨g, 0, none⟩) (n + m) cap) w := by
  rw [run_sliceAt_slice w 22 _ _ _ _ elem22, slice_to g n m cap hm hc]
theorem wrap64_sum (n m : Nat) (h1 : n ≤ 100000) (h2 : m ≤ 100000) : wrap64 ((n : Int) + (m : Int)) = (n : Int) + (m : Int) := IntWalk.wrap64_in _ (by omega)
theorem wrapI_sum (n m : Nat) (h1 : n ≤ 100000) (h2 : m ≤ 100000) : IntKind.i64.wrap ((n : Int) + (m : Int)) = (n : Int) + (m : Int) := by rw [IntKind.wrap_i64]; omega
theorem cast_le {n m c : Nat} (h : n + m ≤ c) : (n : Int) + (m : Int) ≤ (c : Int) := by omega
theorem cap_ne {n m c : Nat} (h : n + m ≤ c) (h1 : 1 ≤ m) : ¬ c = 0 := by omega
theorem cast_nn (n m : Nat) : 0 ≤ (n : Int) + (m : Int) := by omega
theorem grow_done {b : Nat} {w0 wc w1 : World} {PL LL HL SL : List Int} {v : Value} {n m g1 cap1 : Nat} {xs : List Value} (hR4 : Rows4 b w0 PL LL HL SL wc) (hout : wc.ownsRow (b + 4) 5 1 v n xs) (_hm : 1 ≤ m)
    (hcap : n + m ≤ cap1) (ho1 : w1.ownsRow (b + 4) 5 1 (.slice (some ⟨g1, 0, none⟩) n cap1) n xs) (K1 : Kept wc.drew w1 v (.slice (some ⟨g1, 0, none⟩) n cap1)) :
    ∃ g cap ys, Value.slice (some ⟨g1, 0, none⟩) (n + m) cap1 = .slice (some ⟨g, 0, none⟩) (n + m) cap ∧ ys.length = m ∧ b + 4 ≤ g ∧ w1.ownsRow (b + 4) 5 1 (.slice (some ⟨g, 0, none⟩) (n + m) cap) (n + m) (xs ++ ys) ∧ Rows4 b w0 PL LL HL SL w1 := by
  obtain ⟨ys, hy, hg, ho⟩ := own_reslice ho1 hcap
  have hb : Below (b + 4) wc w1 := K1.below (Below.refl _ wc).drew (by exact hR4.sz) (fun k hk => (hout.lt k hk).1)
  exact ⟨g1, cap1, ys, rfl, hy, hg, ho, hR4.kept hb⟩
def UnPost (X : List Int) (limit : Int) (w : World) (e : Ending) (w' : World) : Prop :=
  ∃ v l n, e = .returned v ∧ w'.ownsRow w.heap.size 5 1 v n (l.map (Value.int .u8)) ∧ l <+: X ∧ (l = X ∨ limit < (l.length : Int)) ∧ Below w.heap.size w w'
theorem or_u32' (B d : Nat) (hd : d < 256) : bits BinOp.or IntKind.u32 ((B : Int) * 256 % 4294967296) (d : Int) = ((B * 256 % 4294967296 + d : Nat) : Int) := by
  have e : (d : Int) % 4294967296 = d := by omega
  have h := or_u32 B d hd
  rw [e] at h
  exact h
theorem prevOf_zero (C : List Nat) : prevOf C 0 = -1 := rfl
theorem prevOf_pos (C : List Nat) {j : Nat} (h : 1 ≤ j) : 0 ≤ prevOf C j := by
  unfold prevOf; rw [if_neg (by omega)]; omega
theorem hideIt {p : Prop} (h : p) : Hid p := h
theorem wd_zero (early : Bool) : wd early 0 = 9 := by cases early <;> decide

set_option maxHeartbeats 8000000 in
set_option maxRecDepth 100000 in
theorem unlzw_any (ad : Option Addr) (cd : Nat) (X : List Int) (E : List (Nat × Int)) (T : List (List Int)) (C : List Nat) (early : Bool) (limit : Int) (w : World)
    (hG : Good X E T C) (hX : X.length ≤ 8192) (hC : C.length ≤ X.length) (hD : Reads w ad (pack (full early C))) :
    Calls Try.prog 13 #[.slice ad (pack (full early C)).length cd, .bool early, .int .i64 limit] w fun e w' => UnPost X limit w e w' := by
  obtain ⟨i39, z39, hi39, hz39, hc39⟩ := zero_parts Try.zero39
  obtain ⟨i40, z40, hi40, hz40, hc40⟩ := zero_parts Try.zero40
  obtain ⟨i41, z41, hi41, hz41, hc41⟩ := zero_parts Try.zero41
  obtain ⟨D, hDD⟩ : ∃ D, D = pack (full early C) := ⟨_, rfl⟩
  rw [← hDD] at hD ⊢
  have HD : Hid (D = pack (full early C)) := hDD
  have hDl : D.length ≤ 100000 := by
    rw [hDD, pack_length]
    have := stream_le early C 0
    have := (wd_rng early C.length).2
    simp only [full, List.length_append, codeBits_length]
    omega
  clear hDD
  go_enter Try.func13, Try.ntmps13
  go_wp2_with (first | (refine wpList_alloc_zero _ rfl 39 rfl i39 z39 _ hi39 hz39 hc39 ?_) | (refine wpList_alloc_zero _ rfl 40 rfl i40 z40 _ hi40 hz40 hc40 ?_) | (refine wpList_alloc_zero _ rfl 41 rfl i41 z41 _ hi41 hz41 hc41 ?_))
  go_loopw [11, 24] (fun _ ks wr => ∃ k : Nat, k ≤ 256 ∧ ks = .int .i64 k ∧ Rows4 w.heap.size w zeros (bytesTo k) (bytesTo k) (onesTo k) wr) (fun _ ks _ => 256 - (intOf ks).toNat)
  case atStart => exact ⟨0, Nat.zero_le _, rfl, rows_start w⟩
  case round =>
    obtain ⟨k, hk, rfl, hR⟩ := hrel
    by_cases hlt : k < 256
    · have c1 := hR.l.cell (i := k) (by rw [bytesTo_len _ (by omega)]; omega)
      have c2 := hR.h.cell (i := k) (by rw [bytesTo_len _ (by omega)]; omega)
      have c3 := hR.s.cell (i := k) (by rw [onesTo_len _ (by omega)]; omega)
      have f1 := hR.l.frozen k
      have f2 := hR.h.frozen k
      have f3 := hR.s.frozen k
      have hR' := rows_init hR hlt
      go_wp2
      go_roundw
      case rel => exact ⟨k + 1, by omega, by go_num, hR'⟩
      case measure => simp [intOf]; omega
    · obtain rfl : k = 256 := by omega
      go_upto_if 38 with fail
      go_cut [12] (fun x wx => x = .int .i64 (early1 early) ∧ wx = wr)
      case first =>
        cases early
        all_goals
          go_wp2
          go_meet
          exact ⟨rfl, rfl⟩
      case rest =>
        obtain ⟨rfl, rfl⟩ := hcut
        have he1 := early1_rng early
        go_wp2
        go_loopw [13, 14, 15, 16, 17, 18, 19] (fun v nx wv pv bv nbv iv wr => ∃ j Bv nb ib : Nat, nx = .int .i64 (258 + (min (j - 1) 3838 : Nat)) ∧ wv = .int .i64 (wd early j) ∧ pv = .int .i64 (prevOf C j) ∧
            bv = .int .u32 Bv ∧ nbv = .int .i64 nb ∧ iv = .int .i64 ib ∧ Main w.heap.size w T C early j v Bv nb ib wr) (fun v _ _ _ _ _ _ _ => X.length - lenOf v)
        case atStart =>
          refine ⟨0, 0, 0, 0, rfl, by rw [wd_zero]; rfl, rfl, rfl, rfl, rfl, ⟨⟨_, _, _, _, hR, dec_start T⟩, World.ownsRow_nil _ _ _ _, Nat.zero_le _, rfl, rfl, by decide, by decide⟩⟩
        case round =>
          obtain ⟨j, Bv, nb, ib, rfl, rfl, rfl, rfl, rfl, rfl, hM⟩ := hrel
          obtain ⟨av, cv, rfl, hvc⟩ := owns_cells hM.out
          have hwd := wd_rng early j
          by_cases hlim : ((outOf T C j).length : Int) ≤ limit
          · go_wp2
            go_loop [17, 18, 19] (fun bv nbv iv => ∃ Bv nb ib : Nat, bv = .int .u32 Bv ∧ nbv = .int .i64 nb ∧ iv = .int .i64 ib ∧ nb < wd early j + 8 ∧ Bv < 4294967296 ∧ 8 * ib = posOf early C j + nb ∧ Bv % 2 ^ nb = val (bitf (full early C)) (posOf early C j) nb) (fun _ nbv _ => 12 - (intOf nbv).toNat)
            case atStart => exact ⟨Bv, nb, ib, rfl, rfl, rfl, by have := hM.nb8; omega, hM.b32, hM.hb, hM.hv⟩
            case round =>
              obtain ⟨Bv, nb, ib, rfl, rfl, rfl, hnb, hBv, hpos, hval⟩ := hrel
              have HV : Hid (8 * ib = posOf early C j + nb ∧ Bv % 2 ^ nb = val (bitf (full early C)) (posOf early C j) nb) := ⟨hpos, hval⟩
              clear hval hpos
              have hjC := hM.jle
              have hRd := read_at early C j hjC (codeAt_fits hG early hjC)
              by_cases hnw : nb < wd early j
              · have hi : ib < D.length := by
                  rw [HD.out, pack_length]
                  have h1 := HV.out.1
                  have h2 := hRd.2
                  unfold posOf at h1
                  omega
                obtain ⟨bd, od, rfl, hcd⟩ : ∃ b off, ad = some ⟨b, off, none⟩ ∧ ∀ i, i < D.length → w.cell? ⟨b, off + i, none⟩ = some (.int .u8 (D.getD i 0)) := by
                  rcases hD with rfl | h
                  · simp at hi
                  · exact h
                obtain ⟨d, hd1, hd2, hd3⟩ := byte_val (full early C) ib (by rw [← HD.out]; exact hi)
                have hcell : wr.cell? ⟨bd, od + ib, none⟩ = some (.int .u8 (d : Int)) := by
                  obtain ⟨PL, LL, HL, SL, hR4, _⟩ := hM.rows
                  rw [hd1, ← HD.out]
                  exact (hR4.bl.cell (World.block_lt_of_cell? w _ (hcd ib hi))).trans (hcd ib hi)
                have HRF := hideIt (refill _ _ nb ib Bv d HV.out.1 HV.out.2 hd3 hd2 (by omega))
                have HP : Hid (8 * (ib + 1) = posOf early C j + (nb + 8)) := by
                  show 8 * (ib + 1) = posOf early C j + (nb + 8)
                  have := HV.out.1
                  omega
                clear hd1 hd3 hRd hcd
                go_wp2
                go_round
                case rel => exact ⟨Bv * 256 % 4294967296 + d, nb + 8, ib + 1, by rw [or_u32' Bv d hd2], by go_num, by go_num, by omega, HRF.out.2, HP.out, HRF.out.1⟩
                case measure => simp [intOf]; omega
              · have hge : (wd early j : Int) ≤ (nb : Int) := by omega
                have HRd := hideIt hRd
                clear hRd
                go_upto_region 25 with fail
                go_cut [20] (fun cv wx => cv = .int .i64 (codeAt C j : Nat) ∧ ∃ n, wx = wr.drewN n)
                case first =>
                  go_quiet (fail)
                  go_wp2
                  go_meet
                  refine ⟨?_, _, rfl⟩
                  rw [code_value (full early C) Bv nb (wd early j) (posOf early C j) hBv hwd.2 (by omega) HV.out.2]
                  exact congrArg (fun q : Nat => Value.int .i64 (q : Int)) HRd.out.1
                case rest =>
                  obtain ⟨rfl, nd, rfl⟩ := hcut
                  by_cases hje : j < C.length
                  · have hok := codeAt_ok hG hje
                    obtain ⟨c, hc⟩ : ∃ c, c = codeAt C j := ⟨_, rfl⟩
                    rw [← hc] at hok ⊢
                    have HC : Hid (c = codeAt C j) := hc
                    clear hc
                    have hc1 : c < 4096 := by rcases hok with h | ⟨_, h⟩ <;> omega
                    have hc2 : c ≠ 256 ∧ c ≠ 257 := by rcases hok with h | ⟨_, h⟩ <;> omega
                    have hc3 : c ≤ 258 + min (j - 1) 3838 := by rcases hok with h | ⟨_, h⟩ <;> omega
                    have hc4 : ((c : Int) == 256) = false := by simp; omega
                    have hc5 : ((c : Int) == 257) = false := by simp; omega
                    have hc6 : ¬ (258 + ((min (j - 1) 3838 : Nat) : Int) < (c : Int)) := by omega
                    go_upto_block 6 with fail
                    go_cut [14, 15, 16] (fun nx wv pv wx => nx = .int .i64 (258 + (min (j - 1) 3838 : Nat)) ∧ wv = .int .i64 (wd early j) ∧ pv = .int .i64 (prevOf C j) ∧ wx = wr.drewN nd)
                    case first =>
                      by_cases hcn : (c : Int) = 258 + ((min (j - 1) 3838 : Nat) : Int)
                      · have hp : ¬ prevOf C j < 0 := by
                          unfold prevOf
                          split
                          · subst j
                            simp at hcn
                            rcases hok with h | ⟨_, h⟩ <;> omega
                          · omega
                        have hcn' : ((c : Int) == 258 + ((min (j - 1) 3838 : Nat) : Int)) = true := by simpa using hcn
                        clear hcn
                        go_wp2
                        go_meet
                        exact ⟨rfl, rfl, rfl, rfl⟩
                      · have hcn' : ((c : Int) == 258 + ((min (j - 1) 3838 : Nat) : Int)) = false := by simpa using hcn
                        clear hcn
                        go_wp2
                        go_meet
                        exact ⟨rfl, rfl, rfl, rfl⟩
                    case rest =>
                      obtain ⟨rfl, rfl, rfl, rfl⟩ := hcut
                      go_upto_region 32 with fail
                      go_cut [96] (fun x wx => x = .bool (decide (1 ≤ j ∧ j - 1 < 3838)) ∧ wx = wr.drewN nd)
                      case first =>
                        by_cases hj1 : 1 ≤ j
                        · have hp := prevOf_pos C hj1
                          by_cases hj2 : j - 1 < 3838
                          · have hn : (258 : Int) + ((min (j - 1) 3838 : Nat) : Int) < 4096 := by omega
                            go_wp2
                            go_meet
                            exact ⟨by rw [decide_eq_true (p := 1 ≤ j ∧ j - 1 < 3838) ⟨hj1, hj2⟩], rfl⟩
                          · have hn : ¬ ((258 : Int) + ((min (j - 1) 3838 : Nat) : Int) < 4096) := by omega
                            go_wp2
                            go_meet
                            exact ⟨by rw [decide_eq_false (p := 1 ≤ j ∧ j - 1 < 3838) (fun h => hj2 h.2)], rfl⟩
                        · have hp : ¬ 0 ≤ prevOf C j := by
                            obtain rfl : j = 0 := by omega
                            rw [prevOf_zero]; omega
                          go_wp2
                          go_meet
                          exact ⟨by rw [decide_eq_false (p := 1 ≤ j ∧ j - 1 < 3838) (fun h => hj1 h.1)], rfl⟩
                      case rest =>
                        obtain ⟨rfl, rfl⟩ := hcut
                        go_upto_if 96 with fail
                        go_cut [14, 15, 16] (fun nx wv _ wx => nx = .int .i64 (258 + (min j 3838 : Nat)) ∧ wv = .int .i64 (wd early (j + 1)) ∧ wx.ownsRow (w.heap.size + 4) 5 1 (.slice av (outOf T C j).length cv) (outOf T C j).length ((outOf T C j).map (Value.int .u8)) ∧ ∃ PL LL HL SL, Rows4 w.heap.size w PL LL HL SL wx ∧ Dec T (min j 3838) PL LL HL SL)
                        case first =>
                          obtain ⟨PL, LL, HL, SL, hR4, hDec⟩ := hM.rows
                          have hout := hM.out
                          by_cases hjj : 1 ≤ j ∧ j - 1 < 3838
                          · obtain ⟨hj1, hj2⟩ := hjj
                            obtain ⟨p, b, hpv, hpo, hpn, hTe, hhd, hco⟩ := entry_at hG hje hj1 hj2
                            rw [decide_eq_true (p := 1 ≤ j ∧ j - 1 < 3838) ⟨hj1, hj2⟩, hpv]
                            have hple := prev_le hG hje hj1 hpv
                            have HW := hideIt (wd_step early hj1 hj2)
                            clear hpv
                            obtain ⟨N, hN⟩ : ∃ N, N = 258 + (j - 1) := ⟨_, rfl⟩
                            have hmin : min (j - 1) 3838 = j - 1 := by omega
                            rw [hmin] at hDec
                            have hsv := hDec.sz p hpo
                            have hp4 : p < 4096 := by rcases hpo with h | ⟨_, h⟩ <;> omega
                            have hdh := dec_head hDec hj2 hpo hpn hTe (c := c) (by rw [HC.out]; exact hco)
                            have hds := dec_step hDec hj2 hpo hpn hTe
                            rw [← hN] at hdh hds
                            have hN4 : N < 4096 := by omega
                            have eN : (258 : Int) + ((min (j - 1) 3838 : Nat) : Int) = (N : Int) := by omega
                            rw [eN] at HW ⊢
                            have HN : Hid (N = 258 + (j - 1)) := hN
                            clear hN eN hmin
                            have cp := hR4.p.cell (i := N) (by rw [hDec.pl]; exact hN4)
                            have ch := hR4.h.cell (i := N) (by rw [hDec.hl]; exact hN4)
                            have cs := hR4.s.cell (i := N) (by rw [hDec.sl]; exact hN4)
                            have chp := hR4.h.cell (i := p) (by rw [hDec.hl]; exact hp4)
                            have csp := hR4.s.cell (i := p) (by rw [hDec.sl]; exact hp4)
                            have fp := hR4.p.frozen N
                            have fh := hR4.h.frozen N
                            have fs := hR4.s.frozen N
                            obtain ⟨vp, hvp⟩ : ∃ v, v = PL.getD N 0 := ⟨_, rfl⟩
                            obtain ⟨vh, hvh⟩ : ∃ v, v = HL.getD N 0 := ⟨_, rfl⟩
                            obtain ⟨vs, hvs⟩ : ∃ v, v = SL.getD N 0 := ⟨_, rfl⟩
                            obtain ⟨qh, hqh⟩ : ∃ v, v = HL.getD p 0 := ⟨_, rfl⟩
                            obtain ⟨qs, hqs⟩ : ∃ v, v = SL.getD p 0 := ⟨_, rfl⟩
                            rw [← hvp] at cp
                            rw [← hvh] at ch
                            rw [← hvs] at cs
                            rw [← hqh] at chp
                            rw [← hqs] at csp
                            rw [← hqh] at hdh hds
                            rw [← hqs] at hds hsv
                            clear hvp hvh hvs hqh hqs
                            have hqs0 : 0 ≤ qs := by rw [hsv]; omega
                            have hqs1 : qs ≤ 8192 := by rw [hsv]; omega
                            clear hsv
                            have hp5 : (p : Int) < 4096 := by omega
                            have hN5 : (N : Int) < 4096 := by omega
                            have hRe := (hR4.drewN (nd + 1)).entry N (p : Int) qh (qs + 1)
                            go_upto_region 33 with fail
                            go_cut [] (fun wx => Rows4 w.heap.size w (PL.set N (p : Int)) LL (HL.set N qh) (SL.set N (qs + 1)) wx ∧ wx.ownsRow (w.heap.size + 4) 5 1 (.slice av (outOf T C j).length cv) (outOf T C j).length ((outOf T C j).map (Value.int .u8)))
                            case first =>
                              have ho3 := ownsRow_setCell_below (ownsRow_setCell_below (ownsRow_setCell_below hout (a := ⟨w.heap.size, N, none⟩) (by show w.heap.size < w.heap.size + 4; omega) (.int .u16 (p : Int))) (a := ⟨w.heap.size + 1 + 1, N, none⟩) (by show w.heap.size + 1 + 1 < w.heap.size + 4; omega) (.int .u8 qh)) (a := ⟨w.heap.size + 1 + 1 + 1, N, none⟩) (by show w.heap.size + 1 + 1 + 1 < w.heap.size + 4; omega) (.int .i64 (qs + 1))
                              go_region
                              all_goals
                                go_wp2_with fail
                                go_meet
                                exact ⟨hRe, ho3⟩
                            case rest =>
                              obtain ⟨hR5, ho5⟩ := hcut
                              clear cp ch cs chp csp fp fh fs hRe hR4 hout
                              have chc := hR5.h.cell (i := c) (by rw [List.length_set, hDec.hl]; exact hc1)
                              have cl := hR5.l.cell (i := N) (by rw [hDec.ll]; exact hN4)
                              have fl := hR5.l.frozen N
                              rw [hdh] at chc
                              have HB : Hid ((look T c).headD 0 = b) := by show (look T c).headD 0 = b; rw [HC.out]; exact hhd
                              rw [HB.out] at chc
                              obtain ⟨vl, hvl⟩ : ∃ v, v = LL.getD N 0 := ⟨_, rfl⟩
                              rw [← hvl] at cl
                              have hR6 := hR5.last N b
                              have ho6 := ownsRow_setCell_below ho5 (a := ⟨w.heap.size + 1, N, none⟩) (by show w.heap.size + 1 < w.heap.size + 4; omega) (.int .u8 b)
                              have hds' : Dec T (min j 3838) (PL.set N (p : Int)) (LL.set N b) (HL.set N qh) (SL.set N (qs + 1)) := by
                                rw [show min j 3838 = j - 1 + 1 by omega]; exact hds
                              have hP := wrap64_two_pow (wd early j) hwd.2
                              obtain ⟨P, hPP⟩ : ∃ P, P = 2 ^ wd early j := ⟨_, rfl⟩
                              rw [← hPP] at hP
                              have eP : ((2 : Int) ^ wd early j) = (P : Int) := by rw [hPP]; simp
                              rw [eP] at HW
                              have hP4 : P ≤ 4096 := by rw [hPP]; exact Nat.le_trans (Nat.pow_le_pow_right (by decide) hwd.2) (by decide)
                              clear hvl hdh hhd hds hPP eP hR5 ho5
                              obtain ⟨e0, e1⟩ := he1
                              obtain ⟨ex, hex⟩ : ∃ ex, ex = early1 early := ⟨_, rfl⟩
                              by_cases hw1 : (P : Int) ≤ (N : Int) + 1 + early1 early
                              · by_cases hw2 : (wd early j : Int) < 12
                                · have HW2 : Hid (wd early (j + 1) = wd early j + 1) := by show wd early (j + 1) = wd early j + 1; rw [HW.out, if_pos ⟨hw1, hw2⟩]
                                  go_wp2
                                  go_meet
                                  exact ⟨by have := HN.out; go_num, by rw [HW2.out]; go_num, ho6, _, _, _, _, hR6, hds'⟩
                                · have HW2 : Hid (wd early (j + 1) = wd early j) := by show wd early (j + 1) = wd early j; rw [HW.out, if_neg (fun h => hw2 h.2)]
                                  go_wp2
                                  go_meet
                                  exact ⟨by have := HN.out; go_num, by rw [HW2.out], ho6, _, _, _, _, hR6, hds'⟩
                              · have HW2 : Hid (wd early (j + 1) = wd early j) := by show wd early (j + 1) = wd early j; rw [HW.out, if_neg (fun h => hw1 h.1)]
                                go_wp2
                                go_meet
                                exact ⟨by have := HN.out; go_num, by rw [HW2.out], ho6, _, _, _, _, hR6, hds'⟩
                          · rw [decide_eq_false hjj]
                            have hmin : min j 3838 = min (j - 1) 3838 := by omega
                            go_wp2
                            go_meet
                            exact ⟨by rw [hmin], by rw [wd_same early (by omega)], hout, PL, LL, HL, SL, hR4.drewN nd, by rw [hmin]; exact hDec⟩
                        case rest =>
                          obtain ⟨rfl, rfl, hout, PL, LL, HL, SL, hR4, hDec⟩ := hcut
                          have hok' : okCode c (min j 3838) := hok
                          have hsz := hDec.sz c hok'
                          have hlk := look_le hG hje
                          have hlp : 1 ≤ (look T c).length := by
                            have := hG.ne (hok.mono (by rw [hG.cnt]; omega))
                            exact List.length_pos_iff.2 this
                          have hol := (outOf_prefix hG j).length_le
                          rw [← HC.out] at hlk
                          obtain ⟨m, hm⟩ : ∃ m, m = (look T c).length := ⟨_, rfl⟩
                          obtain ⟨n, hn⟩ : ∃ n, n = (outOf T C j).length := ⟨_, rfl⟩
                          have csz := hR4.s.cell (i := c) (by rw [hDec.sl]; exact hc1)
                          rw [hsz, ← hm] at csz
                          rw [← hm] at hlk hlp
                          rw [← hn] at hout hol ⊢
                          have HM2 : Hid (m = (look T c).length) := hm
                          have HN2 : Hid (n = (outOf T C j).length) := hn
                          clear hm hn hsz
                          go_upto_region 39 with fail
                          go_cut [13] (fun v wx => ∃ g cap ys, v = .slice (some ⟨g, 0, none⟩) (n + m) cap ∧ ys.length = m ∧ w.heap.size + 4 ≤ g ∧ wx.ownsRow (w.heap.size + 4) 5 1 (.slice (some ⟨g, 0, none⟩) (n + m) cap) (n + m) ((outOf T C j).map (Value.int .u8) ++ ys) ∧ Rows4 w.heap.size w PL LL HL SL wx)
                          case first =>
                            have hbw := hR4.sz
                            have hne : some (w.heap.size + 1 + 1 + 1) ≠ (Value.slice av n cv).ownBlock := fun e => by
                              have := (hout.lt _ e.symm).1
                              omega
                            have hn1 : n ≤ 100000 := by omega
                            have hm1 : m ≤ 100000 := by omega
                            have hnm0 : n + m ≤ 1000000000 := by omega
                            have hnm3 := wrap64_sum n m hn1 hm1
                            have hnm4 := wrapI_sum n m hn1 hm1
                            go_region_with (go_at_call 18; refine (grow_any (w.heap.size + 4) (.slice av n cv) n m _ _ (by exact hout) (by exact hbw) hlp hnm0).mono ?_; rintro e1 w1 ⟨g1, cap1, rfl, hcap1, ho1, K1⟩; have csz1 := K1.grown.cell csz hne; have hq1 := cast_le hcap1; have hq3 := cap_ne hcap1 hlp; have hq4 := cast_nn n m)
                            all_goals
                              go_wp2_with fail
                              go_meet
                              exact grow_done hR4 hout hlp ‹_› ‹_› ‹_›
                          case rest =>
                            obtain ⟨g, cap, ys, rfl, hys, hgb, hov, hR7⟩ := hcut
                            clear hout hR4 csz
                            go_wp2_with fail
                            go_loopw [22, 23] (fun cs ats wx => ∃ (r cc : Nat) (zs : List Value), cs = .int .i64 (cc : Nat) ∧ ats = .int .i64 ((n : Int) + (r : Int) - 1) ∧ WInv T c (min j 3838) m r zs cc ∧ wx.ownsRow (w.heap.size + 4) 5 1 (.slice (some ⟨g, 0, none⟩) (n + m) cap) (n + m) ((outOf T C j).map (Value.int .u8) ++ zs) ∧ Rows4 w.heap.size w PL LL HL SL wx) (fun _ ats _ => (intOf ats + 1).toNat)
                            case atStart => exact ⟨m, c, ys, rfl, rfl, winv_start hok' HM2.out hys, hov, hR7⟩
                            case round =>
                              obtain ⟨r, cc, zs, rfl, rfl, hWI, hov2, hR8⟩ := hrel
                              clear hov hR7
                              by_cases hr0 : 0 < r
                              · obtain ⟨q, rfl⟩ : ∃ q, r = q + 1 := ⟨r - 1, by omega⟩
                                obtain ⟨hcco, _⟩ := hWI.more (by omega)
                                have hcc4 : cc < 4096 := by rcases hcco with h | ⟨_, h⟩ <;> omega
                                have hqm : q < m := hWI.rm
                                have hWI2 := winv_step hDec HM2.out hWI
                                have cl := hR8.l.cell (i := cc) (by rw [hDec.ll]; exact hcc4)
                                have cp := hR8.p.cell (i := cc) (by rw [hDec.pl]; exact hcc4)
                                obtain ⟨hp0, hp1⟩ := hDec.pr cc hcc4
                                obtain ⟨lv, hlv⟩ : ∃ v, v = LL.getD cc 0 := ⟨_, rfl⟩
                                obtain ⟨pn, hpn⟩ : ∃ v, v = (PL.getD cc 0).toNat := ⟨_, rfl⟩
                                have hpv : PL.getD cc 0 = (pn : Int) := by omega
                                rw [← hlv] at cl hWI2
                                rw [hpv] at cp
                                rw [← hpn] at hWI2
                                have hpn4 : (pn : Int) < 4096 := by omega
                                clear hlv hpn hpv hp0 hp1
                                obtain ⟨ov, hov3⟩ : ∃ ov, wr.cell? ⟨g, n + q, none⟩ = some ov := by
                                  rw [hov2.cellAt (n + q) (by omega)]
                                  exact ⟨_, List.getElem?_eq_getElem (by have := hWI.len; rw [List.length_append, List.length_map, ← HN2.out]; omega)⟩
                                have hfo := hov2.frozenAt (n + q)
                                have hst := hov2.stored (n + q) (.int .u8 lv)
                                rw [set_right (.int .u8 lv) (by rw [List.length_map]; exact HN2.out.symm)] at hst
                                obtain ⟨hst1, hst2⟩ := hst
                                have hR9 := hR8.kept ((Below.refl _ wr).grown hst2 (by exact hR8.sz) (fun k hk => by injection hk with hk; omega))
                                clear hst2 hWI hov2 hR8
                                go_wp2
                                go_roundw
                                case rel => exact ⟨q, pn, _, by go_num, by go_num, hWI2, hst1, hR9⟩
                                case measure => simp [intOf]; omega
                              · obtain rfl : r = 0 := by omega
                                have hze := winv_end HM2.out hWI
                                have HO : Hid ((outOf T C j).map (Value.int .u8) ++ zs = (outOf T C (j + 1)).map (Value.int .u8)) := by
                                  show _ = _
                                  rw [outOf_succ hje, ← HC.out, hze, List.map_append]
                                have HLn : Hid (n + m = (outOf T C (j + 1)).length) := by
                                  show _ = _
                                  rw [outOf_succ hje, ← HC.out, List.length_append, ← HN2.out, ← HM2.out]
                                have hol2 := (outOf_prefix hG (j + 1)).length_le
                                rw [← HLn.out] at hol2
                                have HPr : Hid (prevOf C (j + 1) = (c : Int)) := by show _ = _; rw [prevOf_succ hje, ← HC.out]
                                have HPo := hideIt (posOf_succ (early := early) hje)
                                have HRv := hideIt (rest_value (full early C) Bv nb (wd early j) (posOf early C j) (by omega) HV.out.2)
                                clear hze hWI
                                go_wp2
                                go_roundw
                                case rel =>
                                  (repeat apply Exists.intro)
                                  refine ⟨?_, rfl⟩
                                  refine ⟨j + 1, Bv, nb - wd early j, ib, by rw [Nat.add_sub_cancel], rfl, by rw [HPr.out], rfl, by go_num, rfl, ⟨⟨PL, LL, HL, SL, hR8, by rw [Nat.add_sub_cancel]; exact hDec⟩, ?_, by omega, ?_, ?_, by omega, hBv⟩⟩
                                  · rw [← HLn.out, ← HO.out]; exact hov2
                                  · rw [HPo.out]; have := HV.out.1; omega
                                  · rw [HPo.out]; exact HRv.out
                                case measure => have := HN2.out; simp [lenOf]; omega
                  · obtain rfl : j = C.length := by omega
                    rw [codeAt_end]
                    have HE := hideIt (outOf_end hG)
                    obtain ⟨PL, LL, HL, SL, hR4, _⟩ := hM.rows
                    have hout := hM.out
                    go_wp2
                    go_ret
                    refine ⟨_, outOf T C C.length, _, rfl, World.ownsRow.mono (by exact hout) (by omega), outOf_prefix hG _, .inl HE.out, (hR4.drewN nd).bl⟩
          · obtain ⟨PL, LL, HL, SL, hR4, _⟩ := hM.rows
            have hout := hM.out
            go_wp2
            go_ret
            exact ⟨_, outOf T C j, _, rfl, World.ownsRow.mono hout (by omega), outOf_prefix hG _, .inr (by omega), hR4.bl⟩

end Go.Proofs.Qxb6601318a
