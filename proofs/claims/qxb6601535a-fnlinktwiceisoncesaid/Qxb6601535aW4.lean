/-
  The law (9).
-/
import Derived.Test.Qxb6601535aW3
namespace Go.Proofs.Qxb6601535a
open Go.RowKit

def LawPost (w : World) (e : Ending) (w' : World) : Prop := e = .returned (.bool true) ∧ Below w.heap.size w w'

set_option maxHeartbeats 1000000 in
/-- Too long a list: true. -/
theorem law_long (a0 : Option Addr) (l0 c0 : Nat) (a1 : Option Addr) (l1 c1 : Nat) (f c : Int) (w : World) (h0 : l0 ≤ maxLen) (h1 : l1 ≤ maxLen) (hb : 65536 < l0 ∨ 65536 < l1) :
    Calls Try.prog 9 #[.slice a0 l0 c0, .slice a1 l1 c1, .int .i64 f, .int .i64 c] w fun e w' => LawPost w e w' := by
  have g0 := h0
  have g1 := h1
  unfold maxLen at h0 h1
  by_cases hl : 65536 < l0
  · have hl' : (65536 : Int) < (l0 : Int) := by omega
    go_enter Try.func9, Try.ntmps9
    go_wp2_with (go_at_call 28; refine (guard_any a0 l0 c0 a1 l1 c1 f c _ g0 g1).mono ?_; rintro e w' ⟨⟨gb, rfl, _⟩, rfl⟩; cases gb)
    all_goals
      go_ret
      exact ⟨rfl, Below.refl _ _⟩
  · have hl' : ¬ (65536 : Int) < (l0 : Int) := by omega
    have hl2 : (65536 : Int) < (l1 : Int) := by omega
    go_enter Try.func9, Try.ntmps9
    go_wp2_with (go_at_call 28; refine (guard_any a0 l0 c0 a1 l1 c1 f c _ g0 g1).mono ?_; rintro e w' ⟨⟨gb, rfl, _⟩, rfl⟩; cases gb)
    all_goals
      go_ret
      exact ⟨rfl, Below.refl _ _⟩

set_option maxHeartbeats 1000000 in
theorem law_bad (a0 : Option Addr) (l0 c0 : Nat) (a1 : Option Addr) (l1 c1 : Nat) (f c : Int) (w : World) (h0 : l0 ≤ 65536) (h1 : l1 ≤ 65536) (fb : -9223372036854775808 ≤ f ∧ f ≤ 9223372036854775807) (cb : -9223372036854775808 ≤ c ∧ c ≤ 9223372036854775807)
    (hb : l1 ≠ l0 ∨ f < 0 ∨ c < 0 ∨ (l0 : Int) < f ∨ (l0 : Int) - f < c) :
    Calls Try.prog 9 #[.slice a0 l0 c0, .slice a1 l1 c1, .int .i64 f, .int .i64 c] w fun e w' => LawPost w e w' := by
  have hl1 : ¬ (65536 : Int) < (l0 : Int) := by omega
  have hl2 : ¬ (65536 : Int) < (l1 : Int) := by omega
  by_cases e1 : (l1 : Int) = (l0 : Int)
  · have e1' : ((l1 : Int) != (l0 : Int)) = false := by simpa using e1
    clear e1
    by_cases e2 : f < 0
    · go_enter Try.func9, Try.ntmps9
      go_wp2_with (go_at_call 28; refine (guard_any a0 l0 c0 a1 l1 c1 f c _ (by unfold maxLen; omega) (by unfold maxLen; omega)).mono ?_; rintro e w' ⟨⟨gb, rfl, hgb⟩, rfl⟩; obtain rfl := hgb h0 h1)
      go_ret
      exact ⟨rfl, Below.refl _ _⟩
    · by_cases e3 : c < 0
      · go_enter Try.func9, Try.ntmps9
        go_wp2_with (go_at_call 28; refine (guard_any a0 l0 c0 a1 l1 c1 f c _ (by unfold maxLen; omega) (by unfold maxLen; omega)).mono ?_; rintro e w' ⟨⟨gb, rfl, hgb⟩, rfl⟩; obtain rfl := hgb h0 h1)
        go_ret
        exact ⟨rfl, Below.refl _ _⟩
      · by_cases e4 : (l0 : Int) < f
        · go_enter Try.func9, Try.ntmps9
          go_wp2_with (go_at_call 28; refine (guard_any a0 l0 c0 a1 l1 c1 f c _ (by unfold maxLen; omega) (by unfold maxLen; omega)).mono ?_; rintro e w' ⟨⟨gb, rfl, hgb⟩, rfl⟩; obtain rfl := hgb h0 h1)
          go_ret
          exact ⟨rfl, Below.refl _ _⟩
        · have e5 : (l0 : Int) - f < c := by
            rcases hb with h | h | h | h | h
            · simp at e1'; omega
            · omega
            · omega
            · omega
            · exact h
          go_enter Try.func9, Try.ntmps9
          go_wp2_with (go_at_call 28; refine (guard_any a0 l0 c0 a1 l1 c1 f c _ (by unfold maxLen; omega) (by unfold maxLen; omega)).mono ?_; rintro e w' ⟨⟨gb, rfl, hgb⟩, rfl⟩; obtain rfl := hgb h0 h1)
          go_ret
          exact ⟨rfl, Below.refl _ _⟩
  · have e1' : ((l1 : Int) != (l0 : Int)) = true := by simpa using e1
    clear e1
    go_enter Try.func9, Try.ntmps9
    go_wp2_with (go_at_call 28; refine (guard_any a0 l0 c0 a1 l1 c1 f c _ (by unfold maxLen; omega) (by unfold maxLen; omega)).mono ?_; rintro e w' ⟨⟨gb, rfl, hgb⟩, rfl⟩; obtain rfl := hgb h0 h1)
    go_ret
    exact ⟨rfl, Below.refl _ _⟩

set_option maxHeartbeats 2000000 in
set_option maxRecDepth 100000 in
theorem law_good (a0 : Option Addr) (c0 : Nat) (a1 : Option Addr) (c1 : Nat) (cs ns : List Int) (first count : Nat) (w : World) (hrc : Reads .u64 w a0 cs) (hrn : Reads .i64 w a1 ns) (hwf : ∀ b ∈ cs, 0 ≤ b)
    (hn : cs.length ≤ 65536) (hnl : ns.length = cs.length) (hfc : first + count ≤ cs.length) :
    Calls Try.prog 9 #[.slice a0 cs.length c0, .slice a1 cs.length c1, .int .i64 first, .int .i64 count] w fun e w' => LawPost w e w' := by
  have HNL := hideIt hnl
  have HWF := hideIt hwf
  clear hnl hwf
  have h1 : ¬ (65536 : Int) < (cs.length : Int) := by omega
  have h2 : ¬ (cs.length : Int) < (first : Int) := by omega
  have h3 : ¬ (cs.length : Int) - (first : Int) < (count : Int) := by omega
  go_enter Try.func9, Try.ntmps9
  go_wp2_with (go_at_call 28; refine (guard_any a0 cs.length c0 a1 cs.length c1 first count _ (by unfold maxLen; omega) (by unfold maxLen; omega)).mono ?_; rintro e w' ⟨⟨gb, rfl, hgb⟩, rfl⟩; obtain rfl := hgb hn hn)
  go_loop [9] (fun is => ∃ k : Nat, k ≤ count ∧ is = .int .i64 ((first : Int) + (k : Int)) ∧ ∀ i, i < k → 0 ≤ cs.getD (first + i) 0 ∧ cs.getD (first + i) 0 ≤ 255) (fun is => first + count - (intOf is).toNat)
  case atStart => exact ⟨0, Nat.zero_le _, by go_num, fun i hi => by omega⟩
  case round =>
    obtain ⟨k, hk, rfl, hall⟩ := hrel
    have HALL := hideIt hall
    clear hall
    by_cases hlt : k < count
    · obtain ⟨bc, oc, rfl, hbc, hcc⟩ := reads_at hrc (i := first + k) (by omega)
      have hv0 : 0 ≤ cs.getD (first + k) 0 := by
        rw [List.getD_eq_getElem?_getD, List.getElem?_eq_getElem (by omega)]
        exact HWF.out _ (List.getElem_mem _)
      obtain ⟨v, hv⟩ : ∃ v, v = cs.getD (first + k) 0 := ⟨_, rfl⟩
      rw [← hv] at hcc hv0
      have HV : Hid (v = cs.getD (first + k) 0) := hv
      clear hv
      by_cases hbig : 255 < v
      · go_wp2
        go_ret
        exact ⟨rfl, Below.refl _ _⟩
      · go_wp2
        go_round
        case rel =>
          refine ⟨k + 1, by omega, by go_num, fun i hi => ?_⟩
          by_cases e : i = k
          · subst e; rw [← HV.out]; omega
          · exact HALL.out i (by omega)
        case measure => simp [intOf]; omega
    · obtain rfl : k = count := by omega
      have hnn : ns.length ≤ 65536 := by rw [HNL.out]; exact hn
      have ci := cloneI_any a1 c1 ns
      rw [HNL.out] at ci
      have HCI := hideIt ci
      clear ci
      go_wp2_with fail
      refine (cloneU_any a0 c0 cs _ hrc hn).mono ?_
      rintro e1 w1 ⟨a2, c2, rfl, hr2, hb1⟩
      go_wp2_with fail
      refine (HCI.out w1 (reads_below hrn hb1 (Nat.le_refl _)) hn).mono ?_
      rintro e2 w2 ⟨a3, c3, he2, hr3, hb2⟩
      rw [HNL.out] at he2
      subst he2
      have hr2' := reads_below hr2 hb2 (Nat.le_refl _)
      clear hr2 hrc hrn
      go_wp2_with fail
      refine (zzlink_any a2 c2 a3 c3 cs ns first k w2 hr2' hr3 HNL.out hfc hn HALL.out).mono ?_
      rintro e3 w3 ⟨a4, c4, a5, c5, rfl, hr4, hr5, hb3⟩
      have hr2'' := reads_below hr2' hb3 (Nat.le_refl _)
      clear hr2' hr3
      go_wp2_with fail
      refine (zzlink_any a4 c4 a5 c5 cs (linkF cs first k ns) first k w3 hr4 hr5 (by rw [linkF_len, HNL.out]) hfc hn HALL.out).mono ?_
      rintro e4 w4 ⟨a6, c6, a7, c7, rfl, hr6, hr7, hb4⟩
      rw [linkF_twice (by rw [HNL.out]; exact hfc)] at hr7
      have hrc := reads_below hr2'' hb4 (Nat.le_refl _)
      have hrn := reads_below hr5 hb4 (Nat.le_refl _)
      have HL : Hid ((linkF cs first k ns).length = cs.length) := by show _ = _; rw [linkF_len, HNL.out]
      obtain ⟨NS, hNS⟩ : ∃ NS, NS = linkF cs first k ns := ⟨_, rfl⟩
      rw [← hNS] at hrn hr7 HL
      have hBel : Below w'.heap.size w' w4 := by
        have q1 := hb1.size
        have q2 := hb2.size
        have q3 := hb3.size
        exact ((hb1.trans (hb2.mono q1)).trans (hb3.mono (by omega))).trans (hb4.mono (by omega))
      clear hNS hr2'' hr4 hr5 hb1 hb2 hb3 hb4
      go_wp2
      go_loopw [14] (fun is wr => ∃ m nd : Nat, m ≤ cs.length ∧ is = .int .i64 (m : Int) ∧ wr = w4.drewN nd) (fun is _ => cs.length - (intOf is).toNat)
      case atStart => exact ⟨0, 0, Nat.zero_le _, rfl, rfl⟩
      case round =>
        obtain ⟨m, nd, hm, rfl, rfl⟩ := hrel
        by_cases hlm : m < cs.length
        · obtain ⟨b1, o1, rfl, _, k1⟩ := reads_at hrc (i := m) hlm
          obtain ⟨b2, o2, rfl, _, k2⟩ := reads_at hr6 (i := m) hlm
          obtain ⟨b3, o3, rfl, _, k3⟩ := reads_at hrn (i := m) (by rw [HL.out]; exact hlm)
          obtain ⟨b4, o4, rfl, _, k4⟩ := reads_at hr7 (i := m) (by rw [HL.out]; exact hlm)
          obtain ⟨v, hv⟩ : ∃ v, v = cs.getD m 0 := ⟨_, rfl⟩
          obtain ⟨x, hx⟩ : ∃ x, x = NS.getD m 0 := ⟨_, rfl⟩
          rw [← hv] at k1 k2
          rw [← hx] at k3 k4
          clear hv hx
          have hlmi : (m : Int) < (cs.length : Int) := by omega
          go_wp2
          go_quiet (fail)
          go_wp2
          go_roundw
          case rel => exact ⟨m + 1, _, by omega, by go_num, rfl⟩
          case measure => simp [intOf]; omega
        · go_wp2
          go_ret
          exact ⟨rfl, hBel.trans ⟨rfl, rfl, rfl, Nat.le_refl _, fun _ _ => rfl⟩⟩

end Go.Proofs.Qxb6601535a
