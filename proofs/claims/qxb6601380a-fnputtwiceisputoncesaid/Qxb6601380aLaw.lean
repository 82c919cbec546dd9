/-
  The laws FnPutMatchesSortedModel (5), FnPutTwiceIsPutOnce (6).
-/
import Derived.Test.Qxb6601380aAgr
import Derived.Test.Qxb6601380aRun
import Derived.Test.Qxb6601380aGrd
namespace Go.Proofs.Qxb6601380a
open Go.RowKit

set_option maxHeartbeats 4000000 in
set_option maxRecDepth 100000 in
theorem law5 (w : World) (a : Option Addr) (cap : Nat) (ops : List (ByteArray × Int × Bool)) (k : ByteArray) (r : Int) (hO : OpsAt w a ops) (hn : ops.length ≤ maxLen) (hk : k.size ≤ maxLen) (hz : ∀ o ∈ ops, o.1.size ≤ maxLen) :
    Calls Try.prog 5 #[.slice a ops.length cap, .string k, .int .u32 r] w fun e w' => TruePost w e w' := by
  have H20 := hidC (bytes20 w a cap ops k r hO hn hk hz)
  have H21 := hidC (big21 w a cap ops k hO hn hk hz)
  have HO := (show Hid (OpsAt w a ops) from hO)
  clear hn hk hz hO
  obtain ⟨n, hnn⟩ : ∃ n, n = ops.length := ⟨_, rfl⟩
  rw [← hnn] at H20 H21 ⊢
  have HNN := (show Hid _ from hnn)
  clear hnn
  go_enter Try.func5, Try.ntmps5
  go_upto_region 3 with (go_at_call 20; refine H20.out.mono ?_; rintro e1 w1 ⟨⟨b, rfl⟩, hw⟩; subst w1; cases b)
  · go_wp2
    go_ret
    exact ⟨rfl, World.grownBy.refl _ _⟩
  go_upto_region 5 with (go_at_call 21; refine H21.out.mono ?_; rintro e1 w1 ⟨⟨b, rfl, hb⟩, hw⟩; subst w1; cases b)
  rotate_left 1
  · go_wp2
    go_ret
    exact ⟨rfl, World.grownBy.refl _ _⟩
  obtain ⟨hn, hk, hz⟩ := hb (by trivial)
  have h22 := clone22 w a cap ops (OpsAt.grown HO.out (World.grownBy.refl _ _)) hn
  rw [← HNN.out] at h22
  have H22 := hidC h22
  have HN := (show Hid _ from hn)
  have HK := (show Hid _ from hk)
  have HZ := (show Hid _ from hz)
  clear h22 hn hk hz hb H20 H21 HO
  go_upto_region 6 with (go_at_call 22; refine H22.out.mono ?_; rintro e1 w1 ⟨ca, cc, rfl, hC, g1⟩)
  have h23 := run23 w1 ca cc ops hC HN.out HZ.out
  have H23 := hidC h23
  have HC := (show Hid (OpsAt w1 ca ops) from hC)
  have G1 := (show Hid _ from g1)
  clear h23 hC g1
  go_upto_region 7 with (go_at_call 23; refine H23.out.mono ?_; rintro e1 w2 ⟨st, v1, v2, bs, rfl, hW⟩)
  have hlen : (runL ops).length ≤ 16384 := Nat.le_trans (len_run ops) HN.out
  have hall : ∀ e ∈ runL ops, e.1.size ≤ 1000000000 := fun e he => by
    obtain ⟨o, h1, h2⟩ := mem_run ops e he
    have := HZ.out o h1
    rw [h2]
    omega
  have h24 := agr24 w2 st v1 v2 _ bs hW.tree hW.rows (by omega)
  have H24 := hidC h24
  unfold ptr at H24
  have HW := (show Hid _ from hW)
  have HALL := (show Hid _ from hall)
  have HLEN := (show Hid _ from hlen)
  clear h24 hW hall hlen H22 H23
  unfold ptr
  go_upto_region 9 with (go_at_call 24; refine H24.out.mono ?_; rintro e1 w3 ⟨rfl, g2⟩)
  have hW3 := HW.out.more g2
  have h25 := zput25 w3 st _ bs k r hW3.tree (by have := HLEN.out; omega)
  have H25 := hidC h25
  unfold ptr at H25
  have HW3 := (show Hid _ from hW3)
  clear h25 hW3 g2 HW H24
  go_upto_region 10 with (go_at_call 25; refine H25.out.mono ?_; rintro e1 w4 ⟨rfl, bs4, hT4, hM4⟩)
  have hW4 := HW3.out.treeMoved hT4 hM4
  have h26 := mput26 w4 v1 v2 _ k r hW4.rows (srt_run ops) (by have := HLEN.out; omega) (by have := HK.out; omega) HALL.out
  have H26 := hidC h26
  have HW4 := (show Hid _ from hW4)
  clear h26 hW4 hT4 hM4 H25 HW3
  go_upto_region 11 with (go_at_call 26; refine H26.out.mono ?_; rintro e1 w5 ⟨v1', v2', rfl, hR5, hM5⟩)
  have hW5 := HW4.out.rowsMoved hR5 hM5
  have h24 := agr24 w5 st v1' v2' _ bs4 hW5.tree hW5.rows (by have := len_put (srt_run ops) k r; have := HLEN.out; omega)
  have H24 := hidC h24
  unfold ptr at H24
  have HG := (show Hid _ from grown_trans G1.out hW5.grown)
  clear h24 hW5 hR5 hM5 HW4 H26
  go_wp2_with (go_at_call 24; refine H24.out.mono ?_; rintro e1 w6 ⟨rfl, g6⟩)
  go_ret
  exact ⟨rfl, grown_trans HG.out g6⟩


set_option maxHeartbeats 4000000 in
set_option maxRecDepth 100000 in
theorem law6 (w : World) (a : Option Addr) (cap : Nat) (ops : List (ByteArray × Int × Bool)) (k : ByteArray) (r : Int) (hO : OpsAt w a ops) (hn : ops.length ≤ maxLen) (hk : k.size ≤ maxLen) (hz : ∀ o ∈ ops, o.1.size ≤ maxLen) :
    Calls Try.prog 6 #[.slice a ops.length cap, .string k, .int .u32 r] w fun e w' => TruePost w e w' := by
  have H20 := hidC (bytes27 w a cap ops k r hO hn hk hz)
  have H21 := hidC (big21 w a cap ops k hO hn hk hz)
  have HO := (show Hid (OpsAt w a ops) from hO)
  clear hn hk hz hO
  obtain ⟨n, hnn⟩ : ∃ n, n = ops.length := ⟨_, rfl⟩
  rw [← hnn] at H20 H21 ⊢
  have HNN := (show Hid _ from hnn)
  clear hnn
  go_enter Try.func6, Try.ntmps6
  go_upto_region 3 with (go_at_call 27; refine H20.out.mono ?_; rintro e1 w1 ⟨⟨b, rfl⟩, hw⟩; subst w1; cases b)
  · go_wp2
    go_ret
    exact ⟨rfl, World.grownBy.refl _ _⟩
  go_upto_region 5 with (go_at_call 21; refine H21.out.mono ?_; rintro e1 w1 ⟨⟨b, rfl, hb⟩, hw⟩; subst w1; cases b)
  rotate_left 1
  · go_wp2
    go_ret
    exact ⟨rfl, World.grownBy.refl _ _⟩
  obtain ⟨hn, hk, hz⟩ := hb (by trivial)
  have h22 := clone22 w a cap ops (OpsAt.grown HO.out (World.grownBy.refl _ _)) hn
  rw [← HNN.out] at h22
  have H22 := hidC h22
  have HN := (show Hid _ from hn)
  have HK := (show Hid _ from hk)
  have HZ := (show Hid _ from hz)
  clear h22 hn hk hz hb H20 H21 HO
  go_upto_region 6 with (go_at_call 22; refine H22.out.mono ?_; rintro e1 w1 ⟨ca, cc, rfl, hC, g1⟩)
  have h23 := run23 w1 ca cc ops hC HN.out HZ.out
  have H23 := hidC h23
  have HC := (show Hid (OpsAt w1 ca ops) from hC)
  have G1 := (show Hid _ from g1)
  clear h23 hC g1
  go_upto_region 7 with (go_at_call 23; refine H23.out.mono ?_; rintro e1 w2 ⟨st, v1, v2, bs, rfl, hW⟩)
  have hlen : (runL ops).length ≤ 16384 := Nat.le_trans (len_run ops) HN.out
  have hall : ∀ e ∈ runL ops, e.1.size ≤ 1000000000 := fun e he => by
    obtain ⟨o, h1, h2⟩ := mem_run ops e he
    have := HZ.out o h1
    rw [h2]
    omega
  have h25 := zput25 w2 st _ bs k r hW.tree (by omega)
  have H25 := hidC h25
  unfold ptr at H25
  have HLEN := (show Hid _ from hlen)
  have HW := (show Hid _ from hW)
  clear h25 hW hall hlen H22 H23
  unfold ptr
  go_upto_region 8 with (go_at_call 25; refine H25.out.mono ?_; rintro e1 w3 ⟨rfl, bs3, hT3, hM3⟩)
  have hW3 := HW.out.treeMoved hT3 hM3
  have h23 := run23 w3 ca cc ops (OpsAt.grown HC.out hW3.grown) HN.out HZ.out
  have H23 := hidC h23
  have HT3 := (show Hid _ from hT3)
  have HG3 := (show Hid _ from grown_trans G1.out hW3.grown)
  clear h23 hT3 hM3 hW3 HW H25 G1 HC
  go_upto_region 9 with (go_at_call 23; refine H23.out.mono ?_; rintro e1 w4 ⟨st', u1, u2, bs4, rfl, hW4⟩)
  have h25 := zput25 w4 st' _ bs4 k r hW4.tree (by have := HLEN.out; omega)
  have H25 := hidC h25
  unfold ptr at H25
  have HW4 := (show Hid _ from hW4)
  clear h25 hW4 H23
  unfold ptr
  go_upto_region 10 with (go_at_call 25; refine H25.out.mono ?_; rintro e1 w5 ⟨rfl, bs5, hT5, hM5⟩)
  have hW5 := HW4.out.treeMoved hT5 hM5
  have h25 := zput25 w5 st' _ bs5 k r hT5 (by have := len_put (srt_run ops) k r; have := HLEN.out; omega)
  have H25 := hidC h25
  unfold ptr at H25
  have HW5 := (show Hid _ from hW5)
  clear h25 hW5 hT5 hM5 HW4
  go_upto_region 11 with (go_at_call 25; refine H25.out.mono ?_; rintro e1 w6 ⟨rfl, bs6, hT6, hM6⟩)
  have hW6 := HW5.out.treeMoved hT6 hM6
  rw [putL_twice (srt_run ops)] at hT6
  have hT3' : TreeAt w6 st (putL k r (runL ops)) bs3 := TreeAt.same HT3.out fun b hb => hW6.grown.block b (TreeAt.lt HT3.out b hb) (by simp)
  have h28 := stree28 w6 st st' _ bs3 bs6 hT3' hT6 (by have := len_put (srt_run ops) k r; have := HLEN.out; omega)
  have H28 := hidC h28
  unfold ptr at H28
  have HG := (show Hid _ from grown_trans HG3.out hW6.grown)
  clear h28 hT3' hT6 hW6 hM6 HW5 H25
  go_wp2_with (go_at_call 28; refine H28.out.mono ?_; rintro e1 w7 ⟨rfl, g7⟩)
  go_ret
  exact ⟨rfl, grown_trans HG.out g7⟩


end Go.Proofs.Qxb6601380a
