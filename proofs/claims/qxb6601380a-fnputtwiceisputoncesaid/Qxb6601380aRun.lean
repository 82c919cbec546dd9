/-
  zzRun (23).
-/
import Derived.Test.Qxb6601380aRunA
namespace Go.Proofs.Qxb6601380a
open Go.RowKit

set_option maxHeartbeats 4000000 in
set_option maxRecDepth 100000 in
theorem run23 (w : World) (a : Option Addr) (cap : Nat) (ops : List (ByteArray × Int × Bool)) (hO : OpsAt w a ops) (hn : ops.length ≤ 16384) (hz : ∀ o ∈ ops, o.1.size ≤ 1048576) :
    Calls Try.prog 23 #[.slice a ops.length cap] w fun e w' => ∃ st v1 v2 bs, e = .returned (.tuple #[ptr st, v1, v2]) ∧ TwoAt w w' st v1 v2 (runL ops) (runL ops) bs := by
  have HC := hidC (new38 w)
  have HO := (show Hid _ from hO)
  have HZ := (show Hid _ from hz)
  clear hO hz
  obtain ⟨n, hnn⟩ : ∃ n, n = ops.length := ⟨_, rfl⟩
  have HN := (show Hid _ from hnn)
  rw [← hnn] at hn ⊢
  clear hnn
  unfold ptr
  go_enter Try.func23, Try.ntmps23
  go_wp2_with (go_at_call 38; refine HC.out.mono ?_; rintro e1 w1 ⟨st, rfl, bs, hT, hg, hnew⟩)
  have H0 : TwoAt w w1 st (.slice none 0 0) (.slice none 0 0) (runL (ops.take 0)) (runL (ops.take 0)) bs :=
    ⟨hT, rows2_nil w1, fun b _ hb => by simp [own2, Value.ownBlock] at hb, hnew, fun b hb => by simp [own2, Value.ownBlock] at hb, hg⟩
  clear hT hg hnew HC
  go_loopw [6, 7, 8] (fun x y z wr => ∃ (m : Nat) (bs : List Nat), z = .int .i64 m ∧ m ≤ n ∧ TwoAt w wr st x y (runL (ops.take m)) (runL (ops.take m)) bs) (fun _ _ z _ => n - (intOf z).toNat)
  case atStart => exact ⟨0, bs, rfl, Nat.zero_le _, H0⟩
  case round =>
    clear H0
    obtain ⟨m, bs, rfl, hm, hW⟩ := hrel
    by_cases hlt : m < n
    · have hme : m < ops.length := by rw [← HN.out]; exact hlt
      obtain ⟨o, ho⟩ : ∃ o, ops[m]? = some o := ⟨_, List.getElem?_eq_getElem hme⟩
      obtain ⟨b, off, rfl, t1, t2, t3⟩ := OpsAt.addr (OpsAt.grown HO.out hW.grown) ho
      have hrun := run_succ ho
      have HOM := (show Hid _ from ho)
      have hom : o ∈ ops := List.mem_of_getElem? ho
      have hks := HZ.out o hom
      have hL : (runL (ops.take m)).length ≤ m := by
        have := len_run (ops.take m)
        rw [List.length_take] at this
        omega
      have hall : ∀ e ∈ runL (ops.take m), e.1.size ≤ 1000000000 := by
        intro e he
        obtain ⟨o', h1, h2⟩ := mem_run _ e he
        have := HZ.out o' (List.mem_of_mem_take h1)
        rw [h2]
        omega
      have hsrt := srt_run (ops.take m)
      have z1 : (m : Int) < (n : Int) := by omega
      have z2 : m ≤ 4000000000 := by omega
      obtain ⟨k, r, rm⟩ := o
      simp only at t1 t2 t3 hks
      obtain ⟨L, hLL⟩ : ∃ L, L = runL (ops.take m) := ⟨_, rfl⟩
      rw [← hLL] at hW hrun hL hall hsrt
      have HRUN := (show Hid _ from hrun)
      have HALL := (show Hid _ from hall)
      clear hLL hrun hall ho hom
      cases rm with
      | false =>
        have H25 := hidC (zput25 wr st L bs k r hW.tree (by omega))
        unfold ptr at H25
        go_upto_region 14 with (go_at_call 25; refine H25.out.mono ?_; rintro e1 w1 ⟨rfl, bs1, hT1, hM1⟩)
        have hW1 := hW.treeMoved hT1 hM1
        obtain ⟨b', off', he, _, t2', _⟩ := OpsAt.addr (OpsAt.grown HO.out hW1.grown) HOM.out
        injection he with he
        injection he with he1 he2
        subst he1 he2
        have H26 := hidC (mput26 w1 u6 u7 L k r hW1.rows hsrt (by omega) (by omega) HALL.out)
        have HW1 := (show Hid _ from hW1)
        clear hT1 hM1 hW hW1
        go_wp2_with (go_at_call 26; refine H26.out.mono ?_; rintro e1 w2 ⟨v1', v2', rfl, hR2, hM2⟩)
        have hW2 := HW1.out.rowsMoved hR2 hM2
        go_roundw
        case rel => exact ⟨m + 1, bs1, by go_num, by omega, by rw [HRUN.out]; exact hW2⟩
        case measure => simp [intOf]; omega
      | true =>
        have H30 := hidC (idx30 u6 L k wr hW.rows.ks hsrt (by omega) (by omega) HALL.out)
        go_upto_region 10 with (go_at_call 30; refine H30.out.mono ?_; rintro e1 w1 ⟨i, f, rfl, hF, q, rfl⟩)
        obtain ⟨la, lb, hai, hBef, hAft, hfnd⟩ := hF
        have hWq := hW.more (grown_drewN (World.grownBy.refl wr none) q)
        rcases hfnd with ⟨rfl, hes⟩ | ⟨rfl, r0, hes⟩
        · have hst : stepL L (k, r, true) = L := by rw [hes]; exact step_rm_no hBef hAft
          have HST := (show Hid _ from hst)
          have HWQ := (show Hid _ from hWq)
          clear hst hWq hes hai hBef hAft
          go_wp2
          go_roundw
          case rel => exact ⟨m + 1, bs, by go_num, by omega, by rw [HRUN.out, HST.out]; exact HWQ.out⟩
          case measure => simp [intOf]; omega
        · have hst : stepL L (k, r, true) = la ++ lb := by rw [hes]; exact step_rm_yes hBef hAft
          have hrm : rmL k L = la ++ lb := by rw [hes]; exact rmL_old hBef hAft
          have H31 := hidC (zrem31 _ st L bs k hWq.tree ⟨r0, by rw [hes]; simp⟩ (by omega))
          unfold ptr at H31
          have HST := (show Hid _ from hst)
          have HRM := (show Hid _ from hrm)
          have HWQ := (show Hid _ from hWq)
          have HES := (show Hid _ from hes)
          have HAI := (show Hid _ from hai)
          clear hst hrm hWq hes hai hBef hAft
          go_upto_region 12 with (go_at_call 31; refine H31.out.mono ?_; rintro e1 w1 ⟨rfl, bs1, hT1, hM1⟩)
          have hW1 := HWQ.out.treeMoved hT1 hM1
          rw [HRM.out] at hW1
          have H32 := hidC (mrem32 w1 u6 u7 L la lb (k, r0) hW1.rows HES.out (by omega))
          rw [HAI.out] at H32
          have HW1 := (show Hid _ from hW1)
          clear hT1 hM1 hW hW1
          go_wp2_with (go_at_call 32; refine H32.out.mono ?_; rintro e1 w2 ⟨v1', v2', rfl, hR2, hM2⟩)
          have hW2 := HW1.out.rowsMoved hR2 hM2
          go_roundw
          case rel => exact ⟨m + 1, bs1, by go_num, by omega, by rw [HRUN.out, HST.out]; exact hW2⟩
          case measure => simp [intOf]; omega
    · obtain rfl : m = n := by omega
      rw [List.take_of_length_le (by rw [← HN.out]; exact Nat.le_refl _)] at hW
      have HW := (show Hid _ from hW)
      clear hW
      go_wp2
      go_ret3
      exact ⟨st, _, _, bs, rfl, HW.out⟩
end Go.Proofs.Qxb6601380a
