/-
  (*messageIndex).link (33).
-/
import Derived.Test.Qxb6601535aRows
import Derived.WalkKit
import Derived.WalkSpells
import Derived.WalkLawsBesides
import Derived.Deep.QuietTactic
import Derived.BigQuiet
import Derived.Deep.DeepCutAuto
import Derived.Test.Qxb6601535aPlain
namespace Go.Proofs.Qxb6601535a
open Go.RowKit

def zeroRow256 : Array Value := (zeros256.map (Value.int .i64)).toArray
theorem Try.zero64 : ((Try.prog.info? 64).bind (·.zero)).map (·.cells) = some zeroRow256 := by kernel_rfl

theorem hideIt {p : Prop} (h : p) : Hid p := h

def LinkPost (g n first count : Nat) (cs ns : List Int) (w : World) (e : Ending) (w' : World) : Prop :=
  e = .returned (.tuple #[]) ∧ BlockAt w' g 60 (opt7 n cs (linkF cs first count ns)) ∧ w.grownBy w' (some g)

set_option maxHeartbeats 1000000 in
set_option maxRecDepth 100000 in
theorem link_zero (xb g n first : Nat) (cs ns : List Int) (w : World) (hx : w.cell? ⟨xb, 3, none⟩ = some (.slice (some ⟨g, 0, none⟩) n n)) (hfc : first ≤ n) (hn : n ≤ 65536)
    (hB : BlockAt w g 60 (opt7 n cs ns)) :
    Calls Try.prog 33 #[.pointer (some ⟨xb, 0, none⟩), .agg #[.int .i64 first, .int .i64 0, .bool false, .int .i64 0, .int .i64 0]] w fun e w' => LinkPost g n first 0 cs ns w e w' := by
  have hxl : xb < w.heap.size := World.block_lt_of_cell? w _ hx
  have h1 : (first : Int) ≤ (n : Int) := by omega
  rcases Nat.eq_or_lt_of_le hfc with rfl | hlt
  all_goals
    try have hne : ¬ n = first := by omega
    go_enter Try.func33, Try.ntmps33
    go_wp2
    go_quiet (fail)
    go_wp2
    go_loop [6, 27] (fun r ks => r = .bool false ∧ ks = .int .i64 0) (fun _ _ => 0)
    case atStart => exact ⟨rfl, rfl⟩
    case round =>
      obtain ⟨rfl, rfl⟩ := hrel
      go_wp2
      refine bodyPost_ret (results_none rfl _ _ _) rfl ⟨rfl, ?_, ?_⟩
      · unfold linkF
        rw [if_neg (by simp [sn])]
        exact BlockAt.alloc (by exact hB.alloc _) _
      · exact grown_trans (grown_drewN (World.grownBy_alloc w _ _) nq) (World.grownBy_alloc _ _ _)

/-- The list's own block. -/
def lCells (first count : Nat) : List Value := [.int .i64 first, .int .i64 count, .bool false, .int .i64 0, .int .i64 0]

set_option maxHeartbeats 2000000 in
set_option maxRecDepth 100000 in
theorem link_some (xb g n first count : Nat) (cs ns : List Int) (w : World) (hx : w.cell? ⟨xb, 3, none⟩ = some (.slice (some ⟨g, 0, none⟩) n n)) (hfc : first + count ≤ n) (hn : n ≤ 65536)
    (hcl : cs.length = n) (hnl : ns.length = n) (hB : BlockAt w g 60 (opt7 n cs ns)) (hcnt : 0 < count) (hcs : ∀ i, i < count → 0 ≤ cs.getD (first + i) 0 ∧ cs.getD (first + i) 0 ≤ 255) :
    Calls Try.prog 33 #[.pointer (some ⟨xb, 0, none⟩), .agg #[.int .i64 first, .int .i64 count, .bool false, .int .i64 0, .int .i64 0]] w fun e w' => LinkPost g n first count cs ns w e w' := by
  obtain ⟨i64, z64, hi64, hz64, hc64⟩ := zero_parts Try.zero64
  have hxl : xb < w.heap.size := World.block_lt_of_cell? w _ hx
  have hgw : g < w.heap.size := hB.lt
  have HC : Hid (cs.length = n) := hcl
  have HN : Hid (ns.length = n) := hnl
  have HCS := hideIt hcs
  clear hcl hnl hcs
  have h1 : (first : Int) + (count : Int) ≤ (n : Int) := by omega
  have h2 : 0 ≤ (first : Int) + (count : Int) := by omega
  have h3 : (first : Int) ≤ (first : Int) + (count : Int) := by omega
  have h4 : ¬ n = first := by omega
  go_enter Try.func33, Try.ntmps33
  go_wp2
  go_quiet (fail)
  go_wp2
  go_loopw [6, 27] (fun r ks wr => ∃ (k : Nat), k ≤ count ∧ ks = .int .i64 k ∧ r = .bool (sn cs first k).2 ∧ BlockAt wr g 60 (opt7 n cs ns) ∧ BlockAt wr (w.heap.size + 1) 69 ((sn cs first k).1.map (Value.int .u64)) ∧ BlockAt wr w.heap.size 63 (lCells first count) ∧ w.grownBy wr (some g) ∧ w.heap.size + 2 ≤ wr.heap.size) (fun _ ks _ => count - (intOf ks).toNat)
  case atStart =>
    refine ⟨0, Nat.zero_le _, rfl, rfl, BlockAt.alloc (by exact hB.alloc _) _, ?_, ?_, grown_trans (grown_drewN (World.grownBy_alloc w _ _) nq) (World.grownBy_alloc _ _ _), by simp⟩
    · have := blockAt_new ((w.alloc (.cells (lCells first count).toArray 63)).drewN nq) 69 ([0, 0, 0, 0].map (Value.int .u64))
      exact (by simpa [lCells, sn] using this)
    · exact BlockAt.alloc (by exact blockAt_new w 63 (lCells first count)) _
  case round =>
    obtain ⟨k, hk, rfl, rfl, hBg, hBs, hBl, hgr, hsz⟩ := hrel
    by_cases hlt : k < count
    · have co : ∀ j, j < 7 → wr.cell? ⟨g, first * 7 + k * 7 + j, none⟩ = some (optCell cs ns ((first + k) * 7 + j)) := fun j hj => by
        rw [hBg.cell, show first * 7 + k * 7 + j = (first + k) * 7 + j by omega, opt7_at _ _ _ _ (by omega)]
      have c0 := co 0 (by omega)
      have c1 := co 1 (by omega)
      have c2 := co 2 (by omega)
      have c3 := co 3 (by omega)
      have c4 := co 4 (by omega)
      have c5 := co 5 (by omega)
      have c6 := co 6 (by omega)
      rw [Nat.add_zero, Nat.add_zero, optCell_code] at c0
      rw [optCell_rest _ _ _ 1 (by omega)] at c1
      rw [optCell_rest _ _ _ 2 (by omega)] at c2
      rw [optCell_rest _ _ _ 3 (by omega)] at c3
      rw [optCell_rest _ _ _ 4 (by omega)] at c4
      rw [optCell_next] at c5
      rw [optCell_rest _ _ _ 6 (by omega)] at c6
      have hcr := HCS.out k hlt
      obtain ⟨c, hc⟩ : ∃ c : Nat, c = (cs.getD (first + k) 0).toNat := ⟨_, rfl⟩
      have hcc : cs.getD (first + k) 0 = (c : Int) := by omega
      have hc255 : c ≤ 255 := by omega
      obtain ⟨x, hx5⟩ : ∃ x, x = ns.getD (first + k) 0 := ⟨_, rfl⟩
      rw [hcc] at c0
      rw [← hx5] at c5
      have HCX : Hid (c = (cs.getD (first + k) 0).toNat) := hc
      clear hcr hc hcc hx5 co
      have hl4 := sn_len cs first k
      obtain ⟨S, hS⟩ : ∃ S, S = (sn cs first k).1 := ⟨_, rfl⟩
      obtain ⟨rb, hrb⟩ : ∃ rb, rb = (sn cs first k).2 := ⟨_, rfl⟩
      rw [← hS] at hl4 hBs
      rw [← hrb]
      have HSn : Hid (sn cs first (k + 1) = (S.set (c / 64) (bits .or .u64 (S.getD (c / 64) 0) (IntKind.u64.wrap (2 ^ (c % 64)))), rb || (bits .and .u64 (S.getD (c / 64) 0) (IntKind.u64.wrap (2 ^ (c % 64))) != 0))) := by
        show _ = _
        rw [sn, ← HCX.out, ← hS, ← hrb]
      clear hS hrb
      have cS : wr.cell? ⟨w.heap.size + 1, c / 64, none⟩ = some (.int .u64 (S.getD (c / 64) 0)) := by
        rw [hBs.cell]
        simp [show c / 64 < S.length by omega]
      have fS := hBs.frozen (c / 64)
      obtain ⟨sv, hsv⟩ : ∃ sv, sv = S.getD (c / 64) 0 := ⟨_, rfl⟩
      rw [← hsv] at cS HSn
      clear hsv
      have HL4 := hideIt hl4
      clear hl4
      have hs1 : w.heap.size + 1 < wr.heap.size := by omega
      have hBs' := hBs.set (c / 64) (.int .u64 (bits .or .u64 sv (IntKind.u64.wrap (2 ^ (c % 64)))))
      rw [← List.map_set] at hBs'
      have hBg' := hBg.other (a := ⟨w.heap.size + 1, c / 64, none⟩) (by show g ≠ w.heap.size + 1; omega) (.int .u64 (bits .or .u64 sv (IntKind.u64.wrap (2 ^ (c % 64)))))
      have hBl' := hBl.other (a := ⟨w.heap.size + 1, c / 64, none⟩) (by show w.heap.size ≠ w.heap.size + 1; omega) (.int .u64 (bits .or .u64 sv (IntKind.u64.wrap (2 ^ (c % 64)))))
      have hgr' := grown_set_new hgr (g := w.heap.size + 1) (by omega) (c / 64) (.int .u64 (bits .or .u64 sv (IntKind.u64.wrap (2 ^ (c % 64)))))
      have hsz' : w.heap.size + 2 ≤ (wr.setCell ⟨w.heap.size + 1, c / 64, none⟩ (.int .u64 (bits .or .u64 sv (IntKind.u64.wrap (2 ^ (c % 64)))))).heap.size := by simpa [World.setCell] using hsz
      clear hBs hBg hBl hgr
      cases rb
      all_goals
        go_wp2
        go_roundw
        case rel => exact ⟨k + 1, by omega, by go_num, by rw [HSn.out]; rfl, hBg'.alloc _, by rw [HSn.out]; exact hBs'.alloc _, hBl'.alloc _, grown_trans hgr' (World.grownBy_alloc _ _ _), by rw [World.size_alloc]; omega⟩
        case measure => simp [intOf]; omega
    · obtain rfl : k = count := by omega
      by_cases hrep : (sn cs first k).2 = true
      · rw [hrep]
        have HRp := hideIt hrep
        clear hrep
        go_wp2_with (refine wpList_alloc_zero _ rfl 64 rfl i64 z64 _ hi64 hz64 hc64 ?_)
        have hBm : BlockAt (wr.alloc (.cells zeroRow256 64)) wr.heap.size 64 (zeros256.map (Value.int .i64)) := blockAt_new wr 64 _
        have hgr2 := grown_trans hgr (World.grownBy_alloc wr (.cells zeroRow256 64) (some g))
        have hBg2 := hBg.alloc (.cells zeroRow256 64)
        have hBl2 := hBl.alloc (.cells zeroRow256 64)
        obtain ⟨mb, hmb⟩ : ∃ mb, mb = wr.heap.size := ⟨_, rfl⟩
        rw [← hmb] at hsz hBm ⊢
        clear hmb
        go_loopw [11, 12] (fun rs _ wr => ∃ (r : Nat), r ≤ k ∧ rs = .int .i64 ((r : Int) - 1) ∧ BlockAt wr g 60 (opt7 n cs (lk cs first k ns (k - r)).1) ∧ BlockAt wr mb 64 ((lk cs first k ns (k - r)).2.map (Value.int .i64)) ∧ BlockAt wr w.heap.size 63 (lCells first k) ∧ w.grownBy wr (some g)) (fun rs _ _ => (intOf rs + 1).toNat)
        case atStart =>
          refine ⟨k, Nat.le_refl _, rfl, ?_, ?_, hBl2, hgr2⟩
          · rw [Nat.sub_self]; exact hBg2
          · rw [Nat.sub_self]; exact hBm
        case round =>
          clear hBm hgr2 hBg2 hBl2 hBg hBs hBl hgr
          obtain ⟨r, hrk, rfl, hBg, hBm, hBl, hgr⟩ := hrel
          by_cases hr0 : 0 < r
          · obtain ⟨q, rfl⟩ : ∃ q, r = q + 1 := ⟨r - 1, by omega⟩
            have hcr := HCS.out q (by omega)
            obtain ⟨c, hc⟩ : ∃ c : Nat, c = (cs.getD (first + q) 0).toNat := ⟨_, rfl⟩
            have hcc : cs.getD (first + q) 0 = (c : Int) := by omega
            have hc255 : c ≤ 255 := by omega
            have HS := hideIt (lk_step (cs := cs) (ns := ns) (first := first) (count := k) (q := q) (by omega))
            have hl1 := lk_len (cs := cs) (ns := ns) (first := first) (count := k) (k - (q + 1))
            have hl2 := lk_met_len (cs := cs) (ns := ns) (first := first) (count := k) (k - (q + 1))
            rw [HN.out] at hl1
            obtain ⟨NS, hNS⟩ : ∃ NS, NS = (lk cs first k ns (k - (q + 1))).1 := ⟨_, rfl⟩
            obtain ⟨ML, hML⟩ : ∃ ML, ML = (lk cs first k ns (k - (q + 1))).2 := ⟨_, rfl⟩
            rw [← hNS] at hl1 hBg HS
            rw [← hML] at hl2 hBm HS
            rw [← hc] at HS
            have c0 : wr.cell? ⟨g, first * 7 + q * 7, none⟩ = some (.int .u64 (c : Int)) := by
              rw [hBg.cell, show first * 7 + q * 7 = (first + q) * 7 by omega, opt7_at _ _ _ _ (by omega), optCell_code, hcc]
            have c5 : wr.cell? ⟨g, first * 7 + q * 7 + 5, none⟩ = some (.int .i64 (NS.getD (first + q) 0)) := by
              rw [hBg.cell, show first * 7 + q * 7 + 5 = (first + q) * 7 + 5 by omega, opt7_at _ _ _ _ (by omega), optCell_next]
            have f5 := hBg.frozen (first * 7 + q * 7 + 5)
            have cm : wr.cell? ⟨mb, c, none⟩ = some (.int .i64 (ML.getD c 0)) := by
              rw [hBm.cell]
              simp [show c < ML.length by omega]
            have fm := hBm.frozen c
            have cl : wr.cell? ⟨w.heap.size, 0, none⟩ = some (.int .i64 (first : Int)) := by rw [hBl.cell]; rfl
            obtain ⟨x, hx5⟩ : ∃ x, x = NS.getD (first + q) 0 := ⟨_, rfl⟩
            obtain ⟨mv, hmv⟩ : ∃ mv, mv = ML.getD c 0 := ⟨_, rfl⟩
            rw [← hx5] at c5
            rw [← hmv] at cm HS
            have hBg' := (hBg.set (first * 7 + q * 7 + 5) (.int .i64 mv)).other (a := ⟨mb, c, none⟩) (by show g ≠ mb; omega) (.int .i64 ((first : Int) + (q : Int) + 1))
            rw [show first * 7 + q * 7 + 5 = (first + q) * 7 + 5 by omega, opt7_next (by omega) hl1] at hBg'
            have hBm' := (hBm.other (a := ⟨g, (first + q) * 7 + 5, none⟩) (by show mb ≠ g; omega) (.int .i64 mv)).set c (.int .i64 ((first : Int) + (q : Int) + 1))
            rw [← List.map_set] at hBm'
            have hBl' := (hBl.other (a := ⟨g, (first + q) * 7 + 5, none⟩) (by show w.heap.size ≠ g; omega) (.int .i64 mv)).other (a := ⟨mb, c, none⟩) (by show w.heap.size ≠ mb; omega) (.int .i64 ((first : Int) + (q : Int) + 1))
            have hgr' := grown_set_new (grown_trans hgr (grown_set wr g ((first + q) * 7 + 5) (.int .i64 mv))) (g := mb) (by omega) c (.int .i64 ((first : Int) + (q : Int) + 1))
            have eo : (first + q) * 7 + 5 = first * 7 + q * 7 + 5 := by omega
            rw [eo] at hBg' hBm' hBl' hgr'
            have ex : ((first + q + 1 : Nat) : Int) = (first : Int) + (q : Int) + 1 := by omega
            rw [ex] at HS
            have HL2 := hideIt hl2
            clear hNS hML hc hcc hcr hx5 hmv eo ex hl1 hl2 hBg hBm hBl hgr
            go_wp2
            go_region
            all_goals
              go_wp2
              go_roundw
              case rel => exact ⟨q, by omega, rfl, by rw [HS.out]; exact hBg', by rw [HS.out]; exact hBm', hBl', grown_drewN hgr' 1⟩
              case measure => simp [intOf]
          · obtain rfl : r = 0 := by omega
            go_wp2
            go_end0
            refine ⟨rfl, ?_, hgr⟩
            unfold linkF
            rw [if_pos HRp.out]
            exact hBg
      · have hrep' : (sn cs first k).2 = false := by simpa using hrep
        rw [hrep']
        clear hrep'
        go_wp2
        refine bodyPost_ret (results_none rfl _ _ _) rfl ⟨rfl, ?_, hgr⟩
        unfold linkF
        rw [if_neg hrep]
        exact hBg

theorem link_any (xb g n first count : Nat) (cs ns : List Int) (w : World) (hx : w.cell? ⟨xb, 3, none⟩ = some (.slice (some ⟨g, 0, none⟩) n n)) (hfc : first + count ≤ n) (hn : n ≤ 65536)
    (hcl : cs.length = n) (hnl : ns.length = n) (hB : BlockAt w g 60 (opt7 n cs ns)) (hcs : ∀ i, i < count → 0 ≤ cs.getD (first + i) 0 ∧ cs.getD (first + i) 0 ≤ 255) :
    Calls Try.prog 33 #[.pointer (some ⟨xb, 0, none⟩), .agg #[.int .i64 first, .int .i64 count, .bool false, .int .i64 0, .int .i64 0]] w fun e w' => LinkPost g n first count cs ns w e w' := by
  by_cases h : 0 < count
  · exact link_some xb g n first count cs ns w hx hfc hn hcl hnl hB h hcs
  · obtain rfl : count = 0 := by omega
    exact link_zero xb g n first cs ns w hx (by omega) hn hB

end Go.Proofs.Qxb6601535a
