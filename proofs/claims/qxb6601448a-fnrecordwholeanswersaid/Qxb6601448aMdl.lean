/-
  modelPeers (28).
-/
import Derived.Test.Qxb6601448aPln
import Derived.Sort.Walk0
namespace Go.Proofs.Qxb6601448a
open Go.RowKit Go.Sort

theorem below_draw {B : Nat} {a w : World} (h : Below B a w) (q : Nat) : Below B a (w.drewN q) := ⟨h.os, h.tape, h.output, h.size, h.block⟩

theorem enS_mid (A : List ByteArray) (y x : ByteArray) (D : List ByteArray) (rest : List Value) : (enS ((A ++ [y]) ++ x :: D) ++ rest)[A.length]? = some (.string y) ∧ (enS ((A ++ [y]) ++ x :: D) ++ rest)[A.length + 1]? = some (.string x) := by
  have e : enS ((A ++ [y]) ++ x :: D) ++ rest = enS A ++ (.string y :: .string x :: (enS D ++ rest)) := by simp [enS]
  have l : (enS A).length = A.length := by simp [enS]
  rw [e]
  constructor
  · rw [List.getElem?_append_right (by omega), l, Nat.sub_self]; rfl
  · rw [List.getElem?_append_right (by omega), l, show A.length + 1 - A.length = 1 by omega]; rfl

theorem enS_swap (A : List ByteArray) (y x : ByteArray) (D : List ByteArray) (rest : List Value) : ((enS ((A ++ [y]) ++ x :: D) ++ rest).set (A.length + 1) (.string y)).set A.length (.string x) = enS (A ++ x :: (y :: D)) ++ rest := by
  have e : enS ((A ++ [y]) ++ x :: D) ++ rest = enS A ++ (.string y :: .string x :: (enS D ++ rest)) := by simp [enS]
  have l : (enS A).length = A.length := by simp [enS]
  rw [e, List.set_append_right _ _ (by omega), l, show A.length + 1 - A.length = 1 by omega, List.set_append_right _ _ (by omega), l, Nat.sub_self]
  simp [enS]

/-- A fresh slice that holds these. -/
def RowPost (w : World) (ks : List ByteArray) (e : Ending) (w' : World) : Prop := ∃ a c, e = .returned (.slice a ks.length c) ∧ Cells w' a (enS ks) ∧ New w a ∧ Below w.heap.size w w'

set_option maxHeartbeats 8000000 in
set_option maxRecDepth 100000 in
theorem model28 (w : World) (a1 a2 : Option Addr) (c1 c2 : Nat) (ps ex : List ByteArray) (h1 : Cells w a1 (enS ps)) (h2 : Cells w a2 (enS ex)) (hp : ps.length ≤ 4096) (he : ex.length ≤ 1048576) :
    Calls Try.prog 28 #[.slice a1 ps.length c1, .slice a2 ex.length c2] w fun e w' => RowPost w (keep ex (srt ps)) e w' := by
  obtain ⟨i0, hi0, hz0, hz1, hz2⟩ := info_parts Try.info9
  have H1 := (show Hid (Cells w a1 (enS ps)) from h1)
  have H2 := (show Hid (Cells w a2 (enS ex)) from h2)
  clear h1 h2
  obtain ⟨n, hnn⟩ : ∃ n, n = ps.length := ⟨_, rfl⟩
  have HN := (show Hid _ from hnn)
  obtain ⟨k, hkk⟩ : ∃ k, k = ex.length := ⟨_, rfl⟩
  have HK := (show Hid _ from hkk)
  rw [← hnn] at hp ⊢
  rw [← hkk] at he ⊢
  clear hnn hkk
  go_enter Try.func28, Try.ntmps28
  go_wp2_with (at_make; refine wpList_make_own _ rfl _ _ 23 rfl w.heap.size 9 i0 (.string ⟨#[]⟩) 1 Try.underlying23 hi0 hz0 hz1 .i64 .i64 _ n rfl rfl rfl (by rw [hz2]; omega) (by unfold maxLen; omega) (Nat.le_refl _) ?_)
  intro w1 hown hgrow
  have START : Hid (w1.ownsRow w.heap.size 9 1 (.slice (some ⟨w.heap.size, 0, none⟩) 0 n) (keep ex (ps.take 0)).length (enS (keep ex (ps.take 0))) ∧ w.grownBy w1 none) := ⟨hown, hgrow⟩
  clear hown hgrow
  go_wp2
  go_loopw [5, 6] (fun x y wr => ∃ m : Nat, y = .int .i64 m ∧ m ≤ n ∧ wr.ownsRow w.heap.size 9 1 x (keep ex (ps.take m)).length (enS (keep ex (ps.take m))) ∧ Below w.heap.size w wr) (fun _ y _ => n - (intOf y).toNat)
  case atStart => exact ⟨0, rfl, Nat.zero_le _, START.out.1, below_grown START.out.2⟩
  case round =>
    clear START
    obtain ⟨m, rfl, hm, hO, hbe⟩ := hrel
    have HO := (show Hid _ from hO)
    have HBE := (show Hid _ from hbe)
    by_cases hlt : m < n
    · obtain ⟨s, hs⟩ : ∃ s, ps[m]? = some s := ⟨_, List.getElem?_eq_getElem (by rw [← HN.out]; exact hlt)⟩
      obtain ⟨b, off, rfl, t1⟩ := Cells.addr (Cells.below H1.out hbe (Nat.le_refl _)) (enS_get hs)
      have h55 := has55 wr a2 c2 ex s (Cells.below H2.out hbe (Nat.le_refl _)) (by rw [← HK.out]; exact he)
      rw [← HK.out] at h55
      have H55 := hidC h55
      have HS := (show Hid _ from hs)
      clear hs h55 hbe
      have z1 : (m : Int) < (n : Int) := by omega
      have z2 : (m : Int) ≤ 2000000 := by omega
      cases hh : has ex s with
      | true =>
        have HH := (show Hid _ from hh)
        rw [hh] at H55
        clear hh hO
        go_wp2_with (go_at_call 55; refine H55.out.mono ?_; rintro e1 w2 ⟨rfl, hw⟩; subst w2)
        go_roundw
        case rel =>
          have hkt : keep ex (ps.take (m + 1)) = keep ex (ps.take m) := by rw [keep_take HS.out, HH.out]; simp
          exact ⟨m + 1, by go_num, by omega, by rw [hkt]; exact HO.out, HBE.out⟩
        case measure => simp [intOf]; omega
      | false =>
        have HH := (show Hid _ from hh)
        rw [hh] at H55
        clear hh
        have hl : (keep ex (ps.take m)).length ≤ 4096 := Nat.le_trans (keep_len _ _) (by rw [List.length_take]; omega)
        go_wp2_with (first | (go_at_call 55; refine H55.out.mono ?_; rintro e1 w2 ⟨rfl, hw⟩; subst w2) | (at_builtin; refine wpList_append_sharp _ rfl (.tmp 26) (.tmp 31) 23 rfl w.heap.size 9 i0 (.string ⟨#[]⟩) 1 16 Try.underlying23 hi0 hz0 hz1 hz2 rfl (by decide) _ _ _ rfl (hO.alloc _) ⟨wr.heap.size, 0, none⟩ 1 1 [.string s] rfl rfl (cell_one_new _ _ _) (by simp [Value.oneCell']) (by unfold maxLen; omega) (by omega) (by have := HBE.out.size; simp; omega) ?_; intro v3 w3 hown3 hg3 hpl3))
        go_roundw
        case rel =>
          have hkt : keep ex (ps.take (m + 1)) = keep ex (ps.take m) ++ [s] := by rw [keep_take HS.out, HH.out]; simp
          refine ⟨m + 1, by go_num, by omega, ?_, ?_⟩
          · rw [hkt, List.length_append]
            simpa [enS] using hown3
          · exact (HBE.out.alloc HBE.out.size _).grown hg3 (by have := HBE.out.size; simp; omega) (fun q e => (World.ownsRow.lt HO.out q e).1)
        case measure => simp [intOf]; omega
    · obtain rfl : m = n := by omega
      have hall : ps.take m = ps := List.take_of_length_le (by rw [← HN.out]; exact Nat.le_refl _)
      rw [hall] at hO
      clear HO HBE hall
      obtain ⟨N, hNN⟩ : ∃ N, N = (keep ex ps).length := ⟨_, rfl⟩
      have HNN := (show Hid _ from hNN)
      have hN4 : N ≤ 4096 := by rw [hNN]; exact Nat.le_trans (keep_len _ _) (by rw [← HN.out]; exact hp)
      rcases (own_open hO).2 with ⟨hv, h0, _⟩ | ⟨g, cap, rest, hv, hg0, hnc, hcm, hrl, hB⟩
      · have hK0 : keep ex ps = [] := List.eq_nil_of_length_eq_zero h0
        have hres : keep ex (srt ps) = [] := (sorted_keep (L := []) List.Pairwise.nil (by rw [hK0])).symm
        have HRES := (show Hid _ from hres)
        have HBE := (show Hid _ from hbe)
        subst hv
        clear hO hK0 hres h0 hNN hbe HNN
        go_wp2
        go_loopw [7] (fun y wr => y = .int .i64 1 ∧ Below w.heap.size w wr) (fun _ _ => 0)
        case atStart => exact ⟨rfl, HBE.out⟩
        case round =>
          obtain ⟨rfl, hb⟩ := hrel
          have HB2 := (show Hid _ from hb)
          clear hb
          go_wp2
          go_ret
          rw [HRES.out]
          exact ⟨none, 0, rfl, .inl rfl, new_nil _, HB2.out⟩
      · rw [← hNN] at hv hnc hrl
        subst hv
        have START : Hid (∃ (m : Nat) (L : List ByteArray), 1 = m ∧ 1 ≤ m ∧ (m ≤ N ∨ m = 1) ∧ L.Perm (keep ex ps) ∧ (L.take m).Pairwise ble ∧ BlockAt wr g 9 (enS L ++ rest) ∧ Below w.heap.size w wr) := by
          refine ⟨1, keep ex ps, rfl, Nat.le_refl _, .inr rfl, List.Perm.refl _, ?_, hB, hbe⟩
          cases keep ex ps with
          | nil => exact List.Pairwise.nil
          | cons x l => exact List.pairwise_singleton _ _
        clear hO hB hbe hNN
        go_wp2
        go_loopw [7] (fun y wr => ∃ (m : Nat) (L : List ByteArray), y = .int .i64 m ∧ 1 ≤ m ∧ (m ≤ N ∨ m = 1) ∧ L.Perm (keep ex ps) ∧ (L.take m).Pairwise ble ∧ BlockAt wr g 9 (enS L ++ rest) ∧ Below w.heap.size w wr) (fun y _ => N - (intOf y).toNat)
        case atStart =>
          obtain ⟨m, L, h1, h2⟩ := START.out
          exact ⟨m, L, by rw [← h1]; rfl, h2⟩
        case round =>
          clear START
          obtain ⟨i, L, rfl, hi1, hi2, hperm, hsrt, hB, hbe⟩ := hrel
          have hLN : L.length = N := by rw [HNN.out]; exact hperm.length_eq
          by_cases hlt2 : i < N
          · have hiL : i < L.length := by omega
            have hsplit : L = L.take i ++ L[i] :: L.drop (i + 1) := by rw [← List.drop_eq_getElem_cons hiL, List.take_append_drop]
            obtain ⟨C, hC⟩ : ∃ C, C = L.drop (i + 1) := ⟨_, rfl⟩
            have START2 : Hid (∃ (A B : List ByteArray) (x : ByteArray), i = A.length ∧ A.length + B.length = i ∧ Ins A x B ∧ (A ++ x :: (B ++ C)).Perm (keep ex ps) ∧ BlockAt wr g 9 (enS (A ++ x :: (B ++ C)) ++ rest) ∧ Below w.heap.size w wr) := by
              refine ⟨L.take i, [], L[i], by rw [List.length_take]; omega, by rw [List.length_take]; simp; omega, Ins.start hsrt _, ?_, ?_, hbe⟩
              · rw [List.nil_append, hC, ← hsplit]; exact hperm
              · rw [List.nil_append, hC, ← hsplit]; exact hB
            have y1 : (i : Int) < (N : Int) := by omega
            have y2 : (i : Int) ≤ 2000000 := by omega
            have HLN := (show Hid _ from hLN)
            clear hsplit hC hperm hsrt hB hbe hLN hiL
            go_wp2
            go_loopw [8] (fun y wr => ∃ (A B : List ByteArray) (x : ByteArray), y = .int .i64 A.length ∧ A.length + B.length = i ∧ Ins A x B ∧ (A ++ x :: (B ++ C)).Perm (keep ex ps) ∧ BlockAt wr g 9 (enS (A ++ x :: (B ++ C)) ++ rest) ∧ Below w.heap.size w wr) (fun y _ => (intOf y).toNat)
            case atStart =>
              obtain ⟨A, B, x, h1, h2⟩ := START2.out
              exact ⟨A, B, x, by rw [← h1], h2⟩
            case round =>
              clear START2
              obtain ⟨A, B, x, rfl, hAB, hIns, hperm, hB, hbe⟩ := hrel
              rcases List.eq_nil_or_concat A with rfl | ⟨A', y, rfl⟩
              · have HB := (show Hid _ from hB)
                have HBE := (show Hid _ from hbe)
                have HP := (show Hid _ from hperm)
                have HI := (show Hid _ from hIns)
                have HAB := (show Hid _ from hAB)
                clear hB hbe hperm hIns hAB
                rw [List.length_nil]
                go_wp2
                go_quiet (fail)
                go_wp2
                go_roundw
                case rel =>
                  refine ⟨i + 1, [] ++ x :: (B ++ C), by go_num, by omega, .inl (by omega), HP.out, ?_, HB.out, below_draw HBE.out _⟩
                  have hbl := HAB.out
                  rw [List.length_nil, Nat.zero_add] at hbl
                  rw [List.nil_append, ← hbl, List.take_succ_cons, List.take_left]
                  exact HI.out.stop0
                case measure => simp [intOf]; omega
              · rw [List.concat_eq_append] at *
                obtain ⟨t1, t2⟩ := enS_mid A' y x (B ++ C) rest
                obtain ⟨p, hp'⟩ : ∃ p, p = A'.length := ⟨_, rfl⟩
                rw [← hB.cell, ← hp'] at t1 t2
                have f1 := hB.frozen p
                have f2 := hB.frozen (p + 1)
                have hB2 := (hB.set (p + 1) (.string y)).set p (.string x)
                rw [hp', enS_swap, ← hp'] at hB2
                have hbe2 := (hbe.setCell (p := ⟨g, p + 1, none⟩) hg0 (.string y)).setCell (p := ⟨g, p, none⟩) hg0 (.string x)
                have hlen : (A' ++ [y]).length = p + 1 := by rw [hp']; simp
                rw [hlen]
                rw [hlen] at hAB
                have HB := (show Hid _ from hB)
                have HBE := (show Hid _ from hbe)
                have HB2 := (show Hid _ from hB2)
                have HBE2 := (show Hid _ from hbe2)
                have HP := (show Hid _ from hperm)
                have HI := (show Hid _ from hIns)
                have HPP := (show Hid _ from hp')
                clear hB hbe hB2 hbe2 hperm hIns hp' hlen
                obtain ⟨j, hj⟩ : ∃ j, j = p + 1 := ⟨_, rfl⟩
                have HJ := (show Hid _ from hj)
                have x1 : (j : Int) - 1 = (p : Int) := by omega
                have x2n : 0 < j := by omega
                have x2d : decide (0 < j) = true := decide_eq_true x2n
                have x3 : (j : Int) < (N : Int) := by omega
                have x4 : (p : Int) < (N : Int) := by omega
                have x5 : (j : Int) ≤ 2000000 := by omega
                have x6 : (p : Int) ≤ 2000000 := by omega
                rw [← hj] at t2 f2 HB2 HBE2 ⊢
                clear hj
                by_cases hxy : lb x < lb y
                · have q1 : Op.bytesLess x.toList y.toList = true := by rw [bytesLess_eq, ByteArray.toList_eq, ByteArray.toList_eq]; exact decide_eq_true hxy
                  have HXY := (show Hid _ from hxy)
                  clear hxy
                  go_wp2
                  go_quiet (fail)
                  go_wp2
                  go_roundw
                  case rel =>
                    refine ⟨A', y :: B, x, by rw [← HPP.out], ?_, HI.out.step HXY.out, ?_, ?_, ?_⟩
                    · have h1 := HJ.out
                      have h2 := HPP.out
                      simp only [List.length_cons]
                      omega
                    · refine List.Perm.trans ?_ HP.out
                      rw [List.append_assoc]
                      exact List.Perm.append_left _ (List.Perm.swap ..)
                    · exact HB2.out
                    · exact ((below_draw HBE.out _).setCell (p := ⟨g, j, none⟩) hg0 (.string y)).setCell (p := ⟨g, p, none⟩) hg0 (.string x)
                  case measure =>
                    have h1 := HJ.out
                    simp [intOf]
                    omega
                · have q1 : Op.bytesLess x.toList y.toList = false := by rw [bytesLess_eq, ByteArray.toList_eq, ByteArray.toList_eq]; exact decide_eq_false hxy
                  have HXY := (show Hid _ from hxy)
                  clear hxy
                  go_wp2
                  go_quiet (fail)
                  go_wp2
                  go_roundw
                  case rel =>
                    refine ⟨i + 1, (A' ++ [y]) ++ x :: (B ++ C), by go_num, by omega, .inl (by omega), HP.out, ?_, HB.out, below_draw HBE.out _⟩
                    have hl : ((A' ++ [y]) ++ x :: B).length = i + 1 := by
                      have h2 := HPP.out
                      simp only [List.length_append, List.length_cons, List.length_nil]
                      omega
                    rw [show (A' ++ [y]) ++ x :: (B ++ C) = ((A' ++ [y]) ++ x :: B) ++ C by simp, ← hl, List.take_left]
                    exact HI.out.stop HXY.out
                  case measure => simp [intOf]; omega
          · have htk : L.take i = L := List.take_of_length_le (by omega)
            rw [htk] at hsrt
            have hfin : L = keep ex (srt ps) := sorted_keep hsrt hperm
            have HF := (show Hid _ from hfin)
            have HB := (show Hid _ from hB)
            have HBE := (show Hid _ from hbe)
            have HLN := (show Hid _ from hLN)
            clear htk hfin hB hbe hperm hsrt hLN
            go_wp2
            go_ret
            rw [← HF.out]
            exact ⟨some ⟨g, 0, none⟩, cap, by rw [HLN.out]; rfl, block_cells HB.out, fun x hx => by cases hx; exact hg0, HBE.out⟩

end Go.Proofs.Qxb6601448a
