/-
  zzBytes (39).
-/
import Derived.Test.Qxb6601448aByu
namespace Go.Proofs.Qxb6601448a
open Go.RowKit

/-- Some bool; where it is true, no list is longer than 1048576; old memory as it was. -/
def ZPost (w : World) (names finals : List ByteArray) (seqs vals : List Int) (sss : List (Option Addr × Nat × List ByteArray)) (e : Ending) (w' : World) : Prop :=
  (∃ b, e = .returned (.bool b) ∧ (b = true → names.length ≤ 1048576 ∧ seqs.length ≤ 1048576 ∧ sss.length ≤ 1048576 ∧ (∀ t ∈ sss, t.2.2.length ≤ 1048576) ∧ finals.length ≤ 1048576 ∧ vals.length ≤ 1048576)) ∧ w.grownBy w' none

set_option maxHeartbeats 16000000 in
set_option maxRecDepth 100000 in
theorem zzb39 (w : World) (r sv rd sq lc : Int) (st nm : ByteArray) (an aq ap af av bp be : Option Addr) (cn cs cp cf cv dp de : Nat) (names finals peers exps : List ByteArray) (seqs vals : List Int) (sss : List (Option Addr × Nat × List ByteArray)) (h : NewsAt w an aq ap af av names finals seqs vals sss) (h2 : SiteAt w bp be peers exps) (hst : st.size ≤ maxLen) (hnm : nm.size ≤ maxLen) :
    Calls Try.prog 39 #[.agg #[.int .u64 r, .slice an names.length cn, .slice aq seqs.length cs, .slice ap sss.length cp, .slice af finals.length cf, .slice av vals.length cv, .string st, .int .u64 sv], .int .u64 rd, .agg #[.string nm, .slice bp peers.length dp, .slice be exps.length de], .int .u64 sq, .int .u64 lc] w fun e w' => ZPost w names finals seqs vals sss e w' := by
  unfold maxLen at hst hnm
  obtain ⟨W, hW⟩ : ∃ W, W = (w.alloc (Obj.cells #[.int .u64 r, .slice an names.length cn, .slice aq seqs.length cs, .slice ap sss.length cp, .slice af finals.length cf, .slice av vals.length cv, .string st, .int .u64 sv] 40)).alloc (Obj.cells #[.string nm, .slice bp peers.length dp, .slice be exps.length de] 42) := ⟨_, rfl⟩
  have g : w.grownBy W none := by rw [hW]; exact grown_trans (World.grownBy_alloc _ _ _) (World.grownBy_alloc _ _ _)
  have hB : BlockAt W w.heap.size 40 [.int .u64 r, .slice an names.length cn, .slice aq seqs.length cs, .slice ap sss.length cp, .slice af finals.length cf, .slice av vals.length cv, .string st, .int .u64 sv] := by rw [hW]; exact (blockAt_new w 40 _).alloc _
  have hD : BlockAt W (w.heap.size + 1) 42 [.string nm, .slice bp peers.length dp, .slice be exps.length de] := by rw [hW]; have := blockAt_new (w.alloc (Obj.cells #[.int .u64 r, .slice an names.length cn, .slice aq seqs.length cs, .slice ap sss.length cp, .slice af finals.length cf, .slice av vals.length cv, .string st, .int .u64 sv] 40)) 42 [.string nm, .slice bp peers.length dp, .slice be exps.length de]; rwa [World.size_alloc] at this
  have G := (show Hid _ from g)
  have h' := h.grown g
  have h2' := h2.grown g
  have C1 := (show Hid (Cells W an (enS names)) from h'.c1)
  have C3 := (show Hid (Nest W ap sss) from h'.c3)
  have C4 := (show Hid (Cells W af (enS finals)) from h'.c4)
  have D1 := (show Hid (Cells W bp (enS peers)) from h2'.c1)
  have D2 := (show Hid (Cells W be (enS exps)) from h2'.c2)
  have Z1 : Hid (∀ s ∈ names, s.size ≤ 9223372036854775807) := h.l1.2
  have Z3 := (show Hid (∀ t ∈ sss, t.2.2.length ≤ maxLen ∧ ∀ s ∈ t.2.2, s.size ≤ 9223372036854775807) from h.l3.2)
  have Z4 : Hid (∀ s ∈ finals, s.size ≤ 9223372036854775807) := h.l4.2
  have Z6 : Hid (∀ s ∈ peers, s.size ≤ 9223372036854775807) := h2.l1.2
  have Z7 : Hid (∀ s ∈ exps, s.size ≤ 9223372036854775807) := h2.l2.2
  have u1 : names.length ≤ 9223372036854775807 := h.l1.1
  have u2 : seqs.length ≤ 9223372036854775807 := h.l2
  have u3 : sss.length ≤ 9223372036854775807 := h.l3.1
  have u4 : finals.length ≤ 9223372036854775807 := h.l4.1
  have u5 : vals.length ≤ 9223372036854775807 := h.l5
  have u6 : peers.length ≤ 9223372036854775807 := h2.l1.1
  have u7 : exps.length ≤ 9223372036854775807 := h2.l2.1
  clear h h' h2 h2' g
  obtain ⟨n1, e1⟩ : ∃ n, n = names.length := ⟨_, rfl⟩
  obtain ⟨n2, e2⟩ : ∃ n, n = seqs.length := ⟨_, rfl⟩
  obtain ⟨n3, e3⟩ : ∃ n, n = sss.length := ⟨_, rfl⟩
  obtain ⟨n4, e4⟩ : ∃ n, n = finals.length := ⟨_, rfl⟩
  obtain ⟨n5, e5⟩ : ∃ n, n = vals.length := ⟨_, rfl⟩
  obtain ⟨n6, e6⟩ : ∃ n, n = peers.length := ⟨_, rfl⟩
  obtain ⟨n7, e7⟩ : ∃ n, n = exps.length := ⟨_, rfl⟩
  have N1 := (show Hid _ from e1); have N2 := (show Hid _ from e2); have N3 := (show Hid _ from e3); have N4 := (show Hid _ from e4)
  have N5 := (show Hid _ from e5); have N6 := (show Hid _ from e6); have N7 := (show Hid _ from e7)
  rw [← e1, ← e2, ← e3, ← e4, ← e5] at hB
  rw [← e6, ← e7] at hD
  rw [← e1, ← e2, ← e3, ← e4, ← e5, ← e6, ← e7] at hW ⊢
  rw [← e1] at u1; rw [← e2] at u2; rw [← e3] at u3; rw [← e4] at u4; rw [← e5] at u5; rw [← e6] at u6; rw [← e7] at u7
  clear e1 e2 e3 e4 e5 e6 e7
  have f1 : W.cell? ⟨w.heap.size, 1, none⟩ = some (.slice an n1 cn) := hB.cell 1
  have f2 : W.cell? ⟨w.heap.size, 2, none⟩ = some (.slice aq n2 cs) := hB.cell 2
  have f3 : W.cell? ⟨w.heap.size, 3, none⟩ = some (.slice ap n3 cp) := hB.cell 3
  have f4 : W.cell? ⟨w.heap.size, 4, none⟩ = some (.slice af n4 cf) := hB.cell 4
  have f5 : W.cell? ⟨w.heap.size, 5, none⟩ = some (.slice av n5 cv) := hB.cell 5
  have f6 : W.cell? ⟨w.heap.size, 6, none⟩ = some (.string st) := hB.cell 6
  have d0 : W.cell? ⟨w.heap.size + 1, 0, none⟩ = some (.string nm) := hD.cell 0
  have d1 : W.cell? ⟨w.heap.size + 1, 1, none⟩ = some (.slice bp n6 dp) := hD.cell 1
  have d2 : W.cell? ⟨w.heap.size + 1, 2, none⟩ = some (.slice be n7 de) := hD.cell 2
  clear hB hD
  go_enter Try.func39, Try.ntmps39
  go_upto_region 1 with fail
  rw [← hW]
  clear hW
  by_cases k : (1048576 : Int) < (n1 : Int)
  · go_wp2
    go_ret
    exact ⟨⟨_, rfl, fun h => by cases h⟩, G.out⟩
  have pa : (n1 : Int) ≤ 1048576 := by omega
  clear k
  go_wp2
  go_loopw [11, 12] (fun x y wr => ∃ (m : Nat) (z : Int), wr = W ∧ y = .int .i64 m ∧ m ≤ n1 ∧ x = .int .i64 z ∧ 0 ≤ z ∧ z ≤ 1048576) (fun _ y _ => n1 - (intOf y).toNat)
  case atStart => exact ⟨0, (n1 : Int), rfl, rfl, Nat.zero_le _, by first | rfl | go_num, by omega, by omega⟩
  case round =>
    obtain ⟨m1, z2, hwr, rfl, hm, rfl, hz0, hz1⟩ := hrel
    subst wr
    by_cases hlt : m1 < n1
    · obtain ⟨s, hs⟩ : ∃ s, names[m1]? = some s := ⟨_, List.getElem?_eq_getElem (by rw [← N1.out]; exact hlt)⟩
      obtain ⟨b, off, rfl, t1⟩ := Cells.addr C1.out (enS_get hs)
      have hsz := Z1.out s (List.mem_of_getElem? hs)
      clear hs
      have q1 : (m1 : Int) < (n1 : Int) := by omega
      have q2 : (m1 : Int) ≤ 2000000 := by omega
      by_cases k : (1048576 : Int) < (s.size : Int)
      · go_wp2
        go_ret
        exact ⟨⟨_, rfl, fun h => by cases h⟩, G.out⟩
      have q3 : (s.size : Int) ≤ 1048576 := by omega
      clear k
      clear hsz
      by_cases k : (1048576 : Int) < z2 + (s.size : Int)
      · go_wp2
        go_ret
        exact ⟨⟨_, rfl, fun h => by cases h⟩, G.out⟩
      have q4 : z2 + (s.size : Int) ≤ 1048576 := by omega
      clear k
      go_wp2
      go_roundw
      case rel => exact ⟨m1 + 1, z2 + (s.size : Int), by trivial, by go_num, by omega, rfl, by omega, by omega⟩
      case measure => simp [intOf]; omega
    · have hmn : m1 = n1 := by omega
      subst m1
      clear hlt hm
      by_cases k : (1048576 : Int) < (n2 : Int)
      · go_wp2
        go_ret
        exact ⟨⟨_, rfl, fun h => by cases h⟩, G.out⟩
      have p3 : (n2 : Int) ≤ 1048576 := by omega
      clear k
      by_cases k : (1048576 : Int) < z2 + (n2 : Int)
      · go_wp2
        go_ret
        exact ⟨⟨_, rfl, fun h => by cases h⟩, G.out⟩
      have p4 : z2 + (n2 : Int) ≤ 1048576 := by omega
      clear k
      by_cases k : (1048576 : Int) < (n3 : Int)
      · go_wp2
        go_ret
        exact ⟨⟨_, rfl, fun h => by cases h⟩, G.out⟩
      have p5 : (n3 : Int) ≤ 1048576 := by omega
      clear k
      by_cases k : (1048576 : Int) < (z2 + (n2 : Int)) + (n3 : Int)
      · go_wp2
        go_ret
        exact ⟨⟨_, rfl, fun h => by cases h⟩, G.out⟩
      have p6 : (z2 + (n2 : Int)) + (n3 : Int) ≤ 1048576 := by omega
      clear k
      go_wp2
      go_loopw [11, 13] (fun x y wr => ∃ (m : Nat) (z : Int), wr = W ∧ y = .int .i64 m ∧ m ≤ n3 ∧ x = .int .i64 z ∧ 0 ≤ z ∧ z ≤ 1048576 ∧ ∀ i t, i < m → sss[i]? = some t → t.2.2.length ≤ 1048576) (fun _ y _ => n3 - (intOf y).toNat)
      case atStart => exact ⟨0, (z2 + (n2 : Int) + (n3 : Int)), rfl, rfl, Nat.zero_le _, by first | rfl | go_num, by omega, by omega, fun i t hi => by omega⟩
      case round =>
        obtain ⟨m, z, hwr, rfl, hm, rfl, hz0, hz1, hall⟩ := hrel
        subst wr
        have HALL := (show Hid _ from hall)
        clear hall
        by_cases hlt : m < n3
        · obtain ⟨t, ht⟩ : ∃ t, sss[m]? = some t := ⟨_, List.getElem?_eq_getElem (by rw [← N3.out]; exact hlt)⟩
          obtain ⟨b, off, rfl, t0⟩ := Cells.addr (C3.out).1 (show (sss.map fun t => (Value.slice t.1 t.2.2.length t.2.1))[m]? = some (.slice t.1 t.2.2.length t.2.1) by rw [List.getElem?_map, ht]; rfl)
          have htm := List.mem_of_getElem? ht
          have hin := (C3.out).2 t htm
          have hsz0 := Z3.out t htm
          have HT := (show Hid _ from ht)
          obtain ⟨ta, tc, tl⟩ := t
          simp only at t0 hin hsz0
          have HIN := (show Hid (Cells W ta (enS tl)) from hin)
          have ZIN := (show Hid _ from hsz0.2)
          have hl0 := hsz0.1
          unfold maxLen at hl0
          obtain ⟨nk, hnk⟩ : ∃ nk, nk = tl.length := ⟨_, rfl⟩
          have NK := (show Hid _ from hnk)
          rw [← hnk] at t0 hl0
          clear ht htm hin hsz0 hnk
          have q1 : (m : Int) < (n3 : Int) := by omega
          have q2 : (m : Int) ≤ 2000000 := by omega
          by_cases k : (1048576 : Int) < (nk : Int)
          · go_wp2
            go_ret
            exact ⟨⟨_, rfl, fun h => by cases h⟩, G.out⟩
          have p7 : (nk : Int) ≤ 1048576 := by omega
          clear k
          by_cases k : (1048576 : Int) < z + (nk : Int)
          · go_wp2
            go_ret
            exact ⟨⟨_, rfl, fun h => by cases h⟩, G.out⟩
          have p8 : z + (nk : Int) ≤ 1048576 := by omega
          clear k
          go_wp2
          go_loopw [11, 14] (fun x y wr => ∃ (m : Nat) (z : Int), wr = W ∧ y = .int .i64 m ∧ m ≤ nk ∧ x = .int .i64 z ∧ 0 ≤ z ∧ z ≤ 1048576) (fun _ y _ => nk - (intOf y).toNat)
          case atStart => exact ⟨0, (z + (nk : Int)), rfl, rfl, Nat.zero_le _, by first | rfl | go_num, by omega, by omega⟩
          case round =>
            obtain ⟨m9, z10, hwr, rfl, hm, rfl, hz0, hz1⟩ := hrel
            subst wr
            by_cases hlt : m9 < nk
            · obtain ⟨s, hs⟩ : ∃ s, tl[m9]? = some s := ⟨_, List.getElem?_eq_getElem (by rw [← NK.out]; exact hlt)⟩
              obtain ⟨b, off, rfl, t1⟩ := Cells.addr HIN.out (enS_get hs)
              have hsz := ZIN.out s (List.mem_of_getElem? hs)
              clear hs
              have q1 : (m9 : Int) < (nk : Int) := by omega
              have q2 : (m9 : Int) ≤ 2000000 := by omega
              by_cases k : (1048576 : Int) < (s.size : Int)
              · go_wp2
                go_ret
                exact ⟨⟨_, rfl, fun h => by cases h⟩, G.out⟩
              have q3 : (s.size : Int) ≤ 1048576 := by omega
              clear k
              clear hsz
              by_cases k : (1048576 : Int) < z10 + (s.size : Int)
              · go_wp2
                go_ret
                exact ⟨⟨_, rfl, fun h => by cases h⟩, G.out⟩
              have q4 : z10 + (s.size : Int) ≤ 1048576 := by omega
              clear k
              go_wp2
              go_roundw
              case rel => exact ⟨m9 + 1, z10 + (s.size : Int), by trivial, by go_num, by omega, rfl, by omega, by omega⟩
              case measure => simp [intOf]; omega
            · have hmn : m9 = nk := by omega
              subst m9
              clear hlt hm
              go_wp2
              go_roundw
              case rel =>
                refine ⟨m + 1, z10, by trivial, by go_num, by omega, rfl, by omega, by omega, fun i t hi ht => ?_⟩
                by_cases hi2 : i < m
                · exact HALL.out i t hi2 ht
                · have him : i = m := by omega
                  rw [him, HT.out] at ht
                  injection ht with ht
                  rw [← ht]
                  show tl.length ≤ 1048576
                  rw [← NK.out]
                  omega
              case measure => simp [intOf]; omega
        · have hmn : m = n3 := by omega
          subst m
          clear hlt hm
          have hall : ∀ t ∈ sss, t.2.2.length ≤ 1048576 := by
            intro t ht
            obtain ⟨i, hi⟩ := List.mem_iff_getElem?.1 ht
            exact HALL.out i t (by rw [N3.out]; exact (List.getElem?_eq_some_iff.1 hi).1) hi
          have FN := (show Hid _ from hall)
          clear hall HALL
          by_cases k : (1048576 : Int) < (n4 : Int)
          · go_wp2
            go_ret
            exact ⟨⟨_, rfl, fun h => by cases h⟩, G.out⟩
          have p11 : (n4 : Int) ≤ 1048576 := by omega
          clear k
          by_cases k : (1048576 : Int) < z + (n4 : Int)
          · go_wp2
            go_ret
            exact ⟨⟨_, rfl, fun h => by cases h⟩, G.out⟩
          have p12 : z + (n4 : Int) ≤ 1048576 := by omega
          clear k
          go_wp2
          go_loopw [11, 15] (fun x y wr => ∃ (m : Nat) (z : Int), wr = W ∧ y = .int .i64 m ∧ m ≤ n4 ∧ x = .int .i64 z ∧ 0 ≤ z ∧ z ≤ 1048576) (fun _ y _ => n4 - (intOf y).toNat)
          case atStart => exact ⟨0, (z + (n4 : Int)), rfl, rfl, Nat.zero_le _, by first | rfl | go_num, by omega, by omega⟩
          case round =>
            obtain ⟨m13, z14, hwr, rfl, hm, rfl, hz0, hz1⟩ := hrel
            subst wr
            by_cases hlt : m13 < n4
            · obtain ⟨s, hs⟩ : ∃ s, finals[m13]? = some s := ⟨_, List.getElem?_eq_getElem (by rw [← N4.out]; exact hlt)⟩
              obtain ⟨b, off, rfl, t1⟩ := Cells.addr C4.out (enS_get hs)
              have hsz := Z4.out s (List.mem_of_getElem? hs)
              clear hs
              have q1 : (m13 : Int) < (n4 : Int) := by omega
              have q2 : (m13 : Int) ≤ 2000000 := by omega
              by_cases k : (1048576 : Int) < (s.size : Int)
              · go_wp2
                go_ret
                exact ⟨⟨_, rfl, fun h => by cases h⟩, G.out⟩
              have q3 : (s.size : Int) ≤ 1048576 := by omega
              clear k
              clear hsz
              by_cases k : (1048576 : Int) < z14 + (s.size : Int)
              · go_wp2
                go_ret
                exact ⟨⟨_, rfl, fun h => by cases h⟩, G.out⟩
              have q4 : z14 + (s.size : Int) ≤ 1048576 := by omega
              clear k
              go_wp2
              go_roundw
              case rel => exact ⟨m13 + 1, z14 + (s.size : Int), by trivial, by go_num, by omega, rfl, by omega, by omega⟩
              case measure => simp [intOf]; omega
            · have hmn : m13 = n4 := by omega
              subst m13
              clear hlt hm
              by_cases k : (1048576 : Int) < (n5 : Int)
              · go_wp2
                go_ret
                exact ⟨⟨_, rfl, fun h => by cases h⟩, G.out⟩
              have p15 : (n5 : Int) ≤ 1048576 := by omega
              clear k
              by_cases k : (1048576 : Int) < z14 + (n5 : Int)
              · go_wp2
                go_ret
                exact ⟨⟨_, rfl, fun h => by cases h⟩, G.out⟩
              have p16 : z14 + (n5 : Int) ≤ 1048576 := by omega
              clear k
              by_cases k : (1048576 : Int) < (st.size : Int)
              · go_wp2
                go_ret
                exact ⟨⟨_, rfl, fun h => by cases h⟩, G.out⟩
              have p17 : (st.size : Int) ≤ 1048576 := by omega
              clear k
              by_cases k : (1048576 : Int) < (z14 + (n5 : Int)) + (st.size : Int)
              · go_wp2
                go_ret
                exact ⟨⟨_, rfl, fun h => by cases h⟩, G.out⟩
              have p18 : (z14 + (n5 : Int)) + (st.size : Int) ≤ 1048576 := by omega
              clear k
              by_cases k : (1048576 : Int) < (nm.size : Int)
              · go_wp2
                go_ret
                exact ⟨⟨_, rfl, fun h => by cases h⟩, G.out⟩
              have p19 : (nm.size : Int) ≤ 1048576 := by omega
              clear k
              by_cases k : (1048576 : Int) < (z14 + (n5 : Int) + (st.size : Int)) + (nm.size : Int)
              · go_wp2
                go_ret
                exact ⟨⟨_, rfl, fun h => by cases h⟩, G.out⟩
              have p20 : (z14 + (n5 : Int) + (st.size : Int)) + (nm.size : Int) ≤ 1048576 := by omega
              clear k
              by_cases k : (1048576 : Int) < (n6 : Int)
              · go_wp2
                go_ret
                exact ⟨⟨_, rfl, fun h => by cases h⟩, G.out⟩
              have p21 : (n6 : Int) ≤ 1048576 := by omega
              clear k
              by_cases k : (1048576 : Int) < (z14 + (n5 : Int) + (st.size : Int) + (nm.size : Int)) + (n6 : Int)
              · go_wp2
                go_ret
                exact ⟨⟨_, rfl, fun h => by cases h⟩, G.out⟩
              have p22 : (z14 + (n5 : Int) + (st.size : Int) + (nm.size : Int)) + (n6 : Int) ≤ 1048576 := by omega
              clear k
              go_wp2
              go_loopw [11, 16] (fun x y wr => ∃ (m : Nat) (z : Int), wr = W ∧ y = .int .i64 m ∧ m ≤ n6 ∧ x = .int .i64 z ∧ 0 ≤ z ∧ z ≤ 1048576) (fun _ y _ => n6 - (intOf y).toNat)
              case atStart => exact ⟨0, (z14 + (n5 : Int) + (st.size : Int) + (nm.size : Int) + (n6 : Int)), rfl, rfl, Nat.zero_le _, by first | rfl | go_num, by omega, by omega⟩
              case round =>
                obtain ⟨m23, z24, hwr, rfl, hm, rfl, hz0, hz1⟩ := hrel
                subst wr
                by_cases hlt : m23 < n6
                · obtain ⟨s, hs⟩ : ∃ s, peers[m23]? = some s := ⟨_, List.getElem?_eq_getElem (by rw [← N6.out]; exact hlt)⟩
                  obtain ⟨b, off, rfl, t1⟩ := Cells.addr D1.out (enS_get hs)
                  have hsz := Z6.out s (List.mem_of_getElem? hs)
                  clear hs
                  have q1 : (m23 : Int) < (n6 : Int) := by omega
                  have q2 : (m23 : Int) ≤ 2000000 := by omega
                  by_cases k : (1048576 : Int) < (s.size : Int)
                  · go_wp2
                    go_ret
                    exact ⟨⟨_, rfl, fun h => by cases h⟩, G.out⟩
                  have q3 : (s.size : Int) ≤ 1048576 := by omega
                  clear k
                  clear hsz
                  by_cases k : (1048576 : Int) < z24 + (s.size : Int)
                  · go_wp2
                    go_ret
                    exact ⟨⟨_, rfl, fun h => by cases h⟩, G.out⟩
                  have q4 : z24 + (s.size : Int) ≤ 1048576 := by omega
                  clear k
                  go_wp2
                  go_roundw
                  case rel => exact ⟨m23 + 1, z24 + (s.size : Int), by trivial, by go_num, by omega, rfl, by omega, by omega⟩
                  case measure => simp [intOf]; omega
                · have hmn : m23 = n6 := by omega
                  subst m23
                  clear hlt hm
                  by_cases k : (1048576 : Int) < (n7 : Int)
                  · go_wp2
                    go_ret
                    exact ⟨⟨_, rfl, fun h => by cases h⟩, G.out⟩
                  have p25 : (n7 : Int) ≤ 1048576 := by omega
                  clear k
                  by_cases k : (1048576 : Int) < z24 + (n7 : Int)
                  · go_wp2
                    go_ret
                    exact ⟨⟨_, rfl, fun h => by cases h⟩, G.out⟩
                  have p26 : z24 + (n7 : Int) ≤ 1048576 := by omega
                  clear k
                  have FIN : Hid (names.length ≤ 1048576 ∧ seqs.length ≤ 1048576 ∧ sss.length ≤ 1048576 ∧ (∀ t ∈ sss, t.2.2.length ≤ 1048576) ∧ finals.length ≤ 1048576 ∧ vals.length ≤ 1048576) := ⟨by rw [← N1.out]; omega, by rw [← N2.out]; omega, by rw [← N3.out]; omega, FN.out, by rw [← N4.out]; omega, by rw [← N5.out]; omega⟩
                  go_wp2
                  go_loopw [11, 17] (fun x y wr => ∃ (m : Nat) (z : Int), wr = W ∧ y = .int .i64 m ∧ m ≤ n7 ∧ x = .int .i64 z ∧ 0 ≤ z ∧ z ≤ 1048576) (fun _ y _ => n7 - (intOf y).toNat)
                  case atStart => exact ⟨0, (z24 + (n7 : Int)), rfl, rfl, Nat.zero_le _, by first | rfl | go_num, by omega, by omega⟩
                  case round =>
                    obtain ⟨m27, z28, hwr, rfl, hm, rfl, hz0, hz1⟩ := hrel
                    subst wr
                    by_cases hlt : m27 < n7
                    · obtain ⟨s, hs⟩ : ∃ s, exps[m27]? = some s := ⟨_, List.getElem?_eq_getElem (by rw [← N7.out]; exact hlt)⟩
                      obtain ⟨b, off, rfl, t1⟩ := Cells.addr D2.out (enS_get hs)
                      have hsz := Z7.out s (List.mem_of_getElem? hs)
                      clear hs
                      have q1 : (m27 : Int) < (n7 : Int) := by omega
                      have q2 : (m27 : Int) ≤ 2000000 := by omega
                      by_cases k : (1048576 : Int) < (s.size : Int)
                      · go_wp2
                        go_ret
                        exact ⟨⟨_, rfl, fun h => by cases h⟩, G.out⟩
                      have q3 : (s.size : Int) ≤ 1048576 := by omega
                      clear k
                      clear hsz
                      by_cases k : (1048576 : Int) < z28 + (s.size : Int)
                      · go_wp2
                        go_ret
                        exact ⟨⟨_, rfl, fun h => by cases h⟩, G.out⟩
                      have q4 : z28 + (s.size : Int) ≤ 1048576 := by omega
                      clear k
                      go_wp2
                      go_roundw
                      case rel => exact ⟨m27 + 1, z28 + (s.size : Int), by trivial, by go_num, by omega, rfl, by omega, by omega⟩
                      case measure => simp [intOf]; omega
                    · have hmn : m27 = n7 := by omega
                      subst m27
                      clear hlt hm
                      go_wp2
                      go_ret
                      exact ⟨⟨_, rfl, fun _ => FIN.out⟩, G.out⟩

end Go.Proofs.Qxb6601448a
