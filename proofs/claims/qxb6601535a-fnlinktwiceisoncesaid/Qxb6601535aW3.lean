/-
  ZZLink (26).
-/
import Derived.Test.Qxb6601535aW2
namespace Go.Proofs.Qxb6601535a
open Go.RowKit

theorem Try.info60 : (Try.prog.info? 60).map (fun i => (i.zero, i.size, i.bytes)) = some (some (.agg #[.int .u64 0, .int .i64 0, .int .i64 0, .int .i64 0, .int .i64 0, .int .i64 0, .int .i64 0]), 7, 56) := by kernel_rfl

def zCell : Array Value := #[.int .u64 0, .int .i64 0, .int .i64 0, .int .i64 0, .int .i64 0, .int .i64 0, .int .i64 0]

theorem made_opts (n : Nat) : (madeCells zCell (n * 7)).toList = opt7 n (List.replicate n 0) (List.replicate n 0) := by
  have hr : ∀ j, (List.replicate n (0 : Int)).getD j 0 = 0 := fun j => by
    rw [List.getD_eq_getElem?_getD, List.getElem?_replicate]
    split <;> rfl
  apply List.ext_getElem?
  intro k
  by_cases hk : k < n * 7
  · rw [opt7_at _ _ _ _ hk]
    have : (madeCells zCell (n * 7)).toList[k]? = some (zCell[k % 7]!) := by simp [madeCells, hk, zCell]
    rw [this]
    unfold optCell
    rw [hr]
    have h7 : k % 7 = 0 ∨ k % 7 = 1 ∨ k % 7 = 2 ∨ k % 7 = 3 ∨ k % 7 = 4 ∨ k % 7 = 5 ∨ k % 7 = 6 := by omega
    rcases h7 with h | h | h | h | h | h | h <;> rw [h] <;> rfl
  · rw [List.getElem?_eq_none (by rw [Array.length_toList, size_madeCells]; omega), List.getElem?_eq_none (by rw [opt7_len]; omega)]

theorem blockAt_own7 {w : World} {g : Nat} {e : TypeId} {l : List Value} {base n : Nat} (h : w.ownsRow base e 7 (.slice (some ⟨g, 0, none⟩) n n) n l) : BlockAt w g e l := by
  obtain ⟨h1, h2⟩ := h
  rcases h2 with ⟨h', _⟩ | ⟨g', cap', cur, h', _, hg, _, _, hcs, htake⟩
  · simp at h'
  · simp only [Value.slice.injEq, Option.some.injEq, Addr.mk.injEq, and_true, true_and] at h'
    obtain ⟨rfl, rfl⟩ := h'
    have : cur.toList = l := by rw [← htake]; exact (List.take_of_length_le (by simp; omega)).symm
    unfold BlockAt
    rw [hg, ← this]

def xCells (ob n : Nat) : List Value := [.slice none 0 0, .slice none 0 0, .slice none 0 0, .slice (some ⟨ob, 0, none⟩) n n, .slice none 0 0, .slice none 0 0, .int .u64 0]

theorem reads_at {k : IntKind} {w : World} {a : Option Addr} {l : List Int} (h : Reads k w a l) {i : Nat} (hi : i < l.length) :
    ∃ b off, a = some ⟨b, off, none⟩ ∧ b < w.heap.size ∧ w.cell? ⟨b, off + i, none⟩ = some (.int k (l.getD i 0)) := by
  rcases h with rfl | ⟨b, off, rfl, hc⟩
  · simp at hi
  · exact ⟨b, off, rfl, World.block_lt_of_cell? w _ (hc i hi), hc i hi⟩

def ZZPost (first count : Nat) (cs ns : List Int) (w : World) (e : Ending) (w' : World) : Prop :=
  ∃ a1 c1 a2 c2, e = .returned (.tuple #[.slice a1 cs.length c1, .slice a2 cs.length c2]) ∧ Reads .u64 w' a1 cs ∧ Reads .i64 w' a2 (linkF cs first count ns) ∧ Below w.heap.size w w'

set_option maxHeartbeats 2000000 in
set_option maxRecDepth 100000 in
theorem zzlink_any (ac : Option Addr) (cc : Nat) (an : Option Addr) (cn : Nat) (cs ns : List Int) (first count : Nat) (w : World) (hrc : Reads .u64 w ac cs) (hrn : Reads .i64 w an ns)
    (hnl : ns.length = cs.length) (hfc : first + count ≤ cs.length) (hn : cs.length ≤ 65536) (hcs : ∀ i, i < count → 0 ≤ cs.getD (first + i) 0 ∧ cs.getD (first + i) 0 ≤ 255) :
    Calls Try.prog 26 #[.slice ac cs.length cc, .slice an cs.length cn, .int .i64 first, .int .i64 count] w fun e w' => ZZPost first count cs ns w e w' := by
  obtain ⟨i60, hi60, hz600, hz601, hz602⟩ := info_parts Try.info60
  obtain ⟨i30, hi30, hz300, hz301, hz302⟩ := info_parts Try.info30
  obtain ⟨i3, hi3, hz30, hz31, hz32⟩ := info_parts Try.info3
  have HNL := hideIt hnl
  have HCS := hideIt hcs
  clear hnl hcs
  obtain ⟨n, hnn⟩ : ∃ n, n = cs.length := ⟨_, rfl⟩
  rw [← hnn] at hfc hn HNL ⊢
  have HNN : Hid (n = cs.length) := hnn
  clear hnn
  go_enter Try.func26, Try.ntmps26
  go_wp2_with (at_make; refine wpList_make_full _ rfl (.tmp 16) (.tmp 16) 54 rfl w.heap.size 60 i60 (.agg zCell) 7 Try.underlying54 hi60 hz600 hz601 .i64 .i64 _ _ n rfl rfl rfl rfl (by rw [hz602]; omega) (by unfold maxLen; omega) (Nat.le_refl _) ?_)
  intro w1 hown hgrow
  have hB0 : BlockAt w1 w.heap.size 60 (opt7 n (half cs n 0) (half ns n 0)) := by
    rw [half_zero, half_zero, ← made_opts]
    exact blockAt_own7 (by simpa [Value.cells] using hown)
  have hbel0 : Below w.heap.size w w1 := (Below.refl _ _).grown hgrow (Nat.le_refl _) (by simp)
  have hob := hB0.lt
  clear hown hgrow
  go_wp2
  have hB1 := hB0.alloc (.cells (xCells w.heap.size n).toArray 58)
  have hX1 := blockAt_new w1 58 (xCells w.heap.size n)
  have hbel1 := hbel0.alloc hbel0.size (.cells (xCells w.heap.size n).toArray 58)
  obtain ⟨xb, hxb⟩ : ∃ xb, xb = w1.heap.size := ⟨_, rfl⟩
  rw [← hxb] at hX1 hob ⊢
  clear hxb
  go_loopw [11] (fun ks wr => ∃ k : Nat, k ≤ n ∧ ks = .int .i64 k ∧ BlockAt wr w.heap.size 60 (opt7 n (half cs n k) (half ns n k)) ∧ BlockAt wr xb 58 (xCells w.heap.size n) ∧ Below w.heap.size w wr) (fun ks _ => n - (intOf ks).toNat)
  case atStart => exact ⟨0, Nat.zero_le _, rfl, hB1, hX1, hbel1⟩
  case round =>
    clear hB1 hX1 hbel1 hB0 hbel0
    obtain ⟨k, hk, rfl, hBo, hBx, hbe⟩ := hrel
    by_cases hlt : k < n
    · obtain ⟨bc, oc, rfl, hbc, hcc⟩ := reads_at hrc (i := k) (by rw [← HNN.out]; exact hlt)
      obtain ⟨bn, on, rfl, hbn, hcn⟩ := reads_at hrn (i := k) (by rw [HNL.out]; exact hlt)
      have hlc := half_len cs n k hk (by rw [← HNN.out]; exact Nat.le_refl _)
      have hln := half_len ns n k hk (by rw [HNL.out]; exact Nat.le_refl _)
      have hsc := half_succ cs n k hlt (by rw [← HNN.out]; exact Nat.le_refl _)
      have hsn := half_succ ns n k hlt (by rw [HNL.out]; exact Nat.le_refl _)
      have kc : wr.cell? ⟨bc, oc + k, none⟩ = some (.int .u64 (cs.getD k 0)) := (hbe.cell hbc).trans hcc
      have kn : wr.cell? ⟨bn, on + k, none⟩ = some (.int .i64 (ns.getD k 0)) := (hbe.cell hbn).trans hcn
      have kx : wr.cell? ⟨xb, 3, none⟩ = some (.slice (some ⟨w.heap.size, 0, none⟩) n n) := by rw [hBx.cell]; rfl
      have k0 : wr.cell? ⟨w.heap.size, k * 7, none⟩ = some (.int .u64 ((half cs n k).getD k 0)) := by rw [hBo.cell, opt7_at _ _ _ _ (by omega), optCell_code]
      have k5 : wr.cell? ⟨w.heap.size, k * 7 + 5, none⟩ = some (.int .i64 ((half ns n k).getD k 0)) := by rw [hBo.cell, opt7_at _ _ _ _ (by omega), optCell_next]
      have f0 := hBo.frozen (k * 7)
      have f5 := hBo.frozen (k * 7 + 5)
      obtain ⟨v1, hv1⟩ : ∃ v, v = cs.getD k 0 := ⟨_, rfl⟩
      obtain ⟨v2, hv2⟩ : ∃ v, v = ns.getD k 0 := ⟨_, rfl⟩
      obtain ⟨o1, ho1⟩ : ∃ v, v = (half cs n k).getD k 0 := ⟨_, rfl⟩
      obtain ⟨o2, ho2⟩ : ∃ v, v = (half ns n k).getD k 0 := ⟨_, rfl⟩
      rw [← hv1] at kc hsc
      rw [← hv2] at kn hsn
      rw [← ho1] at k0
      rw [← ho2] at k5
      have R := (hBo.set (k * 7) (.int .u64 v1)).set (k * 7 + 5) (.int .i64 v2)
      rw [opt7_code hlt hlc, opt7_next hlt hln, hsc, hsn] at R
      have Rx := (hBx.other (a := ⟨w.heap.size, k * 7, none⟩) (by show xb ≠ w.heap.size; omega) (.int .u64 v1)).other (a := ⟨w.heap.size, k * 7 + 5, none⟩) (by show xb ≠ w.heap.size; omega) (.int .i64 v2)
      have Rb := (hbe.setCell (p := ⟨w.heap.size, k * 7, none⟩) (Nat.le_refl _) (.int .u64 v1)).setCell (p := ⟨w.heap.size, k * 7 + 5, none⟩) (Nat.le_refl _) (.int .i64 v2)
      have hki : (k : Int) < (n : Int) := by omega
      have hbcn : ¬ bc = w.heap.size := by omega
      have hbnn : ¬ bn = w.heap.size := by omega
      have hxbn : ¬ xb = w.heap.size := by omega
      clear hv1 hv2 ho1 ho2 hlc hln hsc hsn hBo hBx hbe hcc hcn
      go_wp2
      go_region
      all_goals
        go_wp2
        go_region
        all_goals
          go_wp2
          go_roundw
          case rel => exact ⟨k + 1, by omega, by go_num, R, Rx, Rb.drew.drew⟩
          case measure => simp [intOf]; omega
    · obtain rfl : k = n := by omega
      rw [half_full cs k HNN.out.symm, half_full ns k HNL.out] at hBo
      have kx : wr.cell? ⟨xb, 3, none⟩ = some (.slice (some ⟨w.heap.size, 0, none⟩) k k) := by rw [hBx.cell]; rfl
      go_wp2_with fail
      refine (link_any xb w.heap.size k first count cs ns wr kx hfc hn HNN.out.symm HNL.out hBo HCS.out).mono ?_
      rintro e2 w2 ⟨rfl, hBo2, hgr2⟩
      have hBx2 := hBx.grown hgr2 (by intro h; injection h with h; omega)
      have hbe2 := hbe.grown hgr2 hbe.size (by intro q hq; injection hq with hq; omega)
      have kx2 : w2.cell? ⟨xb, 3, none⟩ = some (.slice (some ⟨w.heap.size, 0, none⟩) k k) := by rw [hBx2.cell]; rfl
      have HFL : Hid ((linkF cs first count ns).length = k) := by show _ = _; rw [linkF_len, HNL.out]
      obtain ⟨NS, hNS⟩ : ∃ NS, NS = linkF cs first count ns := ⟨_, rfl⟩
      rw [← hNS] at hBo2 HFL
      have HNS : Hid (NS = linkF cs first count ns) := hNS
      clear hNS hBo hBx hgr2 kx hbe
      have hs2 := hbe2.size
      go_wp2_with (at_make; refine wpList_make_full _ rfl (.tmp 61) (.tmp 61) 39 rfl w2.heap.size 30 i30 (.int .u64 0) 1 Try.underlying39 hi30 hz300 hz301 .i64 .i64 _ _ k rfl rfl rfl rfl (by rw [hz302]; omega) (by unfold maxLen; omega) (Nat.le_refl _) ?_)
      intro w3 hown3 hgr3
      rw [made_ints] at hown3
      have hC3 := blockAt_own hown3
      have hBo3 := hBo2.grown hgr3 (by simp)
      have hBx3 := hBx2.grown hgr3 (by simp)
      have hbe3 := hbe2.grown hgr3 hs2 (by simp)
      have kx3 : w3.cell? ⟨xb, 3, none⟩ = some (.slice (some ⟨w.heap.size, 0, none⟩) k k) := by rw [hBx3.cell]; rfl
      have hxl := hBx2.lt
      have hol := hBo2.lt
      obtain ⟨c1, hc1⟩ : ∃ c1, c1 = w2.heap.size := ⟨_, rfl⟩
      rw [← hc1] at hC3 hxl hol ⊢
      have hcl := hC3.lt
      clear hown3 hgr3 hBo2 hBx2 hbe2 kx2 hs2 hc1
      have hs3 := hbe3.size
      go_wp2_with (at_make; refine wpList_make_full _ rfl (.tmp 67) (.tmp 67) 40 rfl w3.heap.size 3 i3 (.int .i64 0) 1 Try.underlying40 hi3 hz30 hz31 .i64 .i64 _ _ k rfl rfl rfl rfl (by rw [hz32]; omega) (by unfold maxLen; omega) (Nat.le_refl _) ?_)
      intro w4 hown4 hgr4
      rw [made_ints] at hown4
      have hN4 := blockAt_own hown4
      have hC4 := hC3.grown hgr4 (by simp)
      have hBo4 := hBo3.grown hgr4 (by simp)
      have hBx4 := hBx3.grown hgr4 (by simp)
      have hbe4 := hbe3.grown hgr4 hs3 (by simp)
      obtain ⟨c2, hc2⟩ : ∃ c2, c2 = w3.heap.size := ⟨_, rfl⟩
      rw [← hc2] at hN4 hcl ⊢
      clear hown4 hgr4 hBo3 hBx3 hbe3 kx3 hs3 hC3 hc2
      go_wp2
      go_loopw [14] (fun ks wr => ∃ m : Nat, m ≤ k ∧ ks = .int .i64 m ∧ BlockAt wr w.heap.size 60 (opt7 k cs NS) ∧ BlockAt wr xb 58 (xCells w.heap.size k) ∧ BlockAt wr c1 30 ((half cs k m).map (Value.int .u64)) ∧ BlockAt wr c2 3 ((half NS k m).map (Value.int .i64)) ∧ Below w.heap.size w wr) (fun ks _ => k - (intOf ks).toNat)
      case atStart => exact ⟨0, Nat.zero_le _, rfl, hBo4, hBx4, by rw [half_zero]; exact hC4, by rw [half_zero]; exact hN4, hbe4⟩
      case round =>
        clear hC4 hN4 hBo4 hBx4 hbe4
        obtain ⟨m, hm, rfl, hBo, hBx, hC, hN, hbe⟩ := hrel
        have kx : wr.cell? ⟨xb, 3, none⟩ = some (.slice (some ⟨w.heap.size, 0, none⟩) k k) := by rw [hBx.cell]; rfl
        by_cases hlm : m < k
        · have hlc := half_len cs k m hm (by rw [← HNN.out]; exact Nat.le_refl _)
          have hln := half_len NS k m hm (by rw [HFL.out]; exact Nat.le_refl _)
          have hsc := half_succ cs k m hlm (by rw [← HNN.out]; exact Nat.le_refl _)
          have hsn := half_succ NS k m hlm (by rw [HFL.out]; exact Nat.le_refl _)
          have k0 : wr.cell? ⟨w.heap.size, m * 7, none⟩ = some (.int .u64 (cs.getD m 0)) := by rw [hBo.cell, opt7_at _ _ _ _ (by omega), optCell_code]
          have k5 : wr.cell? ⟨w.heap.size, m * 7 + 5, none⟩ = some (.int .i64 (NS.getD m 0)) := by rw [hBo.cell, opt7_at _ _ _ _ (by omega), optCell_next]
          have kc : wr.cell? ⟨c1, m, none⟩ = some (.int .u64 ((half cs k m).getD m 0)) := by rw [hC.cell]; simp [show m < (half cs k m).length by omega]
          have kn : wr.cell? ⟨c2, m, none⟩ = some (.int .i64 ((half NS k m).getD m 0)) := by rw [hN.cell]; simp [show m < (half NS k m).length by omega]
          have fc := hC.frozen m
          have fn := hN.frozen m
          obtain ⟨v1, hv1⟩ : ∃ v, v = cs.getD m 0 := ⟨_, rfl⟩
          obtain ⟨v2, hv2⟩ : ∃ v, v = NS.getD m 0 := ⟨_, rfl⟩
          obtain ⟨o1, ho1⟩ : ∃ v, v = (half cs k m).getD m 0 := ⟨_, rfl⟩
          obtain ⟨o2, ho2⟩ : ∃ v, v = (half NS k m).getD m 0 := ⟨_, rfl⟩
          rw [← hv1] at k0 hsc
          rw [← hv2] at k5 hsn
          rw [← ho1] at kc
          rw [← ho2] at kn
          have RC := (hC.set m (.int .u64 v1)).other (a := ⟨c2, m, none⟩) (by show c1 ≠ c2; omega) (.int .i64 v2)
          have RN := (hN.other (a := ⟨c1, m, none⟩) (by show c2 ≠ c1; omega) (.int .u64 v1)).set m (.int .i64 v2)
          rw [← List.map_set, hsc] at RC
          rw [← List.map_set, hsn] at RN
          have RO := (hBo.other (a := ⟨c1, m, none⟩) (by show w.heap.size ≠ c1; omega) (.int .u64 v1)).other (a := ⟨c2, m, none⟩) (by show w.heap.size ≠ c2; omega) (.int .i64 v2)
          have RX := (hBx.other (a := ⟨c1, m, none⟩) (by show xb ≠ c1; omega) (.int .u64 v1)).other (a := ⟨c2, m, none⟩) (by show xb ≠ c2; omega) (.int .i64 v2)
          have Rb := (hbe.setCell (p := ⟨c1, m, none⟩) (by show w.heap.size ≤ c1; omega) (.int .u64 v1)).setCell (p := ⟨c2, m, none⟩) (by show w.heap.size ≤ c2; omega) (.int .i64 v2)
          have n1 : ¬ c1 = c2 := by omega
          have n2 : ¬ xb = c1 := by omega
          have n3 : ¬ w.heap.size = c1 := by omega
          clear hv1 hv2 ho1 ho2 hlc hln hsc hsn hBo hBx hC hN hbe
          go_wp2
          go_roundw
          case rel => exact ⟨m + 1, by omega, by go_num, RO, RX, RC, RN, Rb⟩
          case measure => simp [intOf]; omega
        · obtain rfl : m = k := by omega
          rw [half_full cs m HNN.out.symm] at hC
          rw [half_full NS m HFL.out] at hN
          go_wp2
          go_ret2
          exact ⟨some ⟨c1, 0, none⟩, m, some ⟨c2, 0, none⟩, m, by rw [← HNN.out]; rfl, blockAt_reads hC, by rw [← HNS.out]; exact blockAt_reads hN, hbe⟩

end Go.Proofs.Qxb6601535a
