/-
  zzShape (40).
-/
import Derived.Test.Qxb6601380aDoor
namespace Go.Proofs.Qxb6601380a
open Go.RowKit

theorem inter_len : ∀ (es : List Ent) (ks : List (List Ent)), ks.length = es.length + 1 → (inter es ks).length = es.length + (ks.map List.length).sum
  | [], [k], _ => by simp [inter]
  | [], [], h => by simp at h
  | [], _ :: _ :: _, h => by simp at h
  | _ :: _, [], h => by simp at h
  | e :: es, k :: ks, h => by
    have := inter_len es ks (by simpa using h)
    simp only [inter, List.length_append, List.length_cons, this, List.map_cons, List.sum_cons]
    omega

theorem le_sum : ∀ {l : List Nat} {x : Nat}, x ∈ l → x ≤ l.sum
  | y :: l, x, h => by
    rw [List.sum_cons]
    rcases List.mem_cons.1 h with q | q
    · omega
    · have := le_sum q; omega

/-- How many entries the first m of these trees hold. -/
def cntTo (h : Nat) (K : List (T h)) (m : Nat) : Nat := ((K.take m).map fun k => (flat h k).length).sum

theorem cntTo_succ {h : Nat} {K : List (T h)} {m : Nat} {c : T h} (hc : K[m]? = some c) : cntTo h K (m + 1) = cntTo h K m + (flat h c).length := by
  unfold cntTo
  rw [List.take_add_one, hc]
  simp

theorem cntTo_le {h : Nat} (K : List (T h)) (m : Nat) : cntTo h K m ≤ (K.map fun k => (flat h k).length).sum := by
  unfold cntTo
  conv => rhs; rw [← List.take_append_drop m K]
  rw [List.map_append, List.sum_append]
  omega

theorem cntTo_all {h : Nat} {K : List (T h)} {m : Nat} (hm : K.length ≤ m) : cntTo h K m = (K.map fun k => (flat h k).length).sum := by
  unfold cntTo
  rw [List.take_of_length_le hm]

theorem flat_len {h : Nat} (d : Hd) (K : List (T h)) (hK : K.length = d.es.length + 1) : (flat (h + 1) (d, K)).length = d.es.length + (K.map fun k => (flat h k).length).sum := by
  show (inter d.es (K.map (flat h))).length = _
  rw [inter_len _ _ (by simpa using hK), List.map_map]
  rfl

theorem hgt_le : ∀ (h lo : Nat) (t : T h), Shape lo h t → (h = 0 ∨ 1 ≤ lo) → h ≤ (flat h t).length
  | 0, _, _, _, _ => Nat.zero_le _
  | h + 1, lo, (d, K), s, hl => by
    have s1 : lo ≤ d.es.length := s.1
    have s3 : K.length = d.es.length + 1 := s.2.2.1
    have s4 : ∀ k ∈ K, Shape 15 h k := s.2.2.2
    rw [flat_len d K s3]
    match K, s3, s4 with
    | [], h3, _ => simp at h3
    | c :: K, _, h4 =>
      have := hgt_le h 15 c (h4 c (List.mem_cons_self ..)) (.inr (by omega))
      simp only [List.map_cons, List.sum_cons]
      omega

def Shp40 (h : Nat) (c : T h) (w : World) : Prop := Calls Try.prog 40 #[Value.pointer (some ⟨(hd h c).p, 0, none⟩), .bool false] w fun e w' => e = .returned (.tuple #[.bool true, .int .i64 h, .int .i64 (flat h c).length]) ∧ w' = w
def Chd54 (p q i : Nat) (w : World) : Prop := Calls Try.prog 54 #[Value.pointer (some ⟨p, 0, none⟩), .int .i64 i] w fun e w' => e = .returned (Value.pointer (some ⟨q, 0, none⟩)) ∧ w' = w

set_option maxHeartbeats 4000000 in
set_option maxRecDepth 100000 in
theorem shape40 : ∀ (h lo : Nat) (t : T h) (root : Bool) (w : World), Lies w h t → Shape lo h t → ((root = true ∧ (h = 0 ∨ 1 ≤ lo)) ∨ 15 ≤ lo) → (flat h t).length ≤ 1000000000 → h ≤ 1000000000 →
    Calls Try.prog 40 #[ptr (hd h t).p, .bool root] w fun e w' => e = .returned (.tuple #[.bool true, .int .i64 h, .int .i64 (flat h t).length]) ∧ w' = w := by
  intro h
  induction h with
  | zero =>
    intro lo t root w hL hS hr hn hh
    have hN : NodeAt w t [] := hL
    have H52 := hidC (ec52 w t [] hN)
    have H53 := hidC (cc53 w t [] hN)
    have s1 : lo ≤ t.es.length := hS.1
    have s2 : t.es.length ≤ 31 := hS.2
    have e1 : (flat 0 t) = t.es := rfl
    have e2 : hd 0 t = t := rfl
    rw [e1, e2]
    unfold ptr at H52 H53 ⊢
    obtain ⟨n, hnn⟩ : ∃ n, n = t.es.length := ⟨_, rfl⟩
    rw [← hnn] at H52 s1 s2 ⊢
    clear hnn e1 e2
    have z1 : (n : Int) ≤ 31 := by omega
    cases root with
    | true =>
      go_enter Try.func40, Try.ntmps40
      go_wp2_with (first | (go_at_call 52; refine H52.out.mono ?_; rintro e1 w1 ⟨rfl, hw⟩; subst w1) | (go_at_call 53; refine H53.out.mono ?_; rintro e1 w1 ⟨rfl, hw⟩; subst w1))
      go_ret3
      exact ⟨rfl, rfl⟩
    | false =>
      have z2 : (15 : Int) ≤ (n : Int) := by
        rcases hr with ⟨h, _⟩ | h
        · cases h
        · omega
      go_enter Try.func40, Try.ntmps40
      go_wp2_with (first | (go_at_call 52; refine H52.out.mono ?_; rintro e1 w1 ⟨rfl, hw⟩; subst w1) | (go_at_call 53; refine H53.out.mono ?_; rintro e1 w1 ⟨rfl, hw⟩; subst w1))
      go_ret3
      exact ⟨rfl, rfl⟩
  | succ h ih =>
    intro lo t root w hL hS hr hn hh
    obtain ⟨d, K⟩ := t
    have s1 : lo ≤ d.es.length := hS.1
    have s2 : d.es.length ≤ 31 := hS.2.1
    have s3 : K.length = d.es.length + 1 := hS.2.2.1
    have s4 : ∀ k ∈ K, Shape 15 h k := hS.2.2.2
    have hN : NodeAt w d (K.map fun k => (hd h k).p) := hL.1
    have hk : ∀ k ∈ K, Lies w h k := hL.2
    have s5 := flat_len d K s3
    have H52 := hidC (ec52 w d _ hN)
    have H53 := hidC (cc53 w d _ hN)
    rw [List.length_map] at H53
    have e2 : hd (h + 1) (d, K) = d := rfl
    obtain ⟨tot, htot⟩ : ∃ x, x = (flat (h + 1) (d, K)).length := ⟨_, rfl⟩
    rw [e2, ← htot]
    rw [← htot] at s5 hn
    obtain ⟨n, hnn⟩ : ∃ n, n = d.es.length := ⟨_, rfl⟩
    rw [s3] at H53
    rw [← hnn] at H52 H53 s1 s2 s3 s5
    have H54 : Hid (∀ (i : Nat) (c : T h), K[i]? = some c → Chd54 d.p (hd h c).p i w) :=
      fun i c hi => ch54 w d _ i _ hN (by rw [List.getElem?_map, hi]; rfl)
    have H40 : Hid (∀ c ∈ K, Shp40 h c w) := by
      intro c hc
      refine ih 15 c false w (hk c hc) (s4 c hc) (.inr (Nat.le_refl _)) ?_ (by omega)
      have : (flat h c).length ≤ (K.map fun k => (flat h k).length).sum := le_sum (List.mem_map.2 ⟨c, hc, rfl⟩)
      omega
    have HS3 := (show Hid _ from s3)
    have HS5 := (show Hid _ from s5)
    clear ih hnn htot e2 hL hS hN hk s4 s3 s5
    unfold ptr at H52 H53 ⊢
    have z1 : (n : Int) ≤ 31 := by omega
    have z3 : ((n : Int) == 0) = false := by
      have : 1 ≤ n := by
        rcases hr with ⟨_, h | h⟩ | h
        · cases h
        · omega
        · omega
      simp
      omega
    have z4 : (((n + 1 : Nat) : Int) != (n : Int) + 1) = false := by simp
    have z5 : (((n + 1 : Nat) : Int) == 0) = false := by simp; omega
    have z2 : root = false → (15 : Int) ≤ (n : Int) := by
      intro e
      rcases hr with ⟨h, _⟩ | h
      · rw [e] at h; cases h
      · omega
    obtain ⟨n1, hn1⟩ : ∃ n1, n1 = n + 1 := ⟨_, rfl⟩
    have HN1 := (show Hid _ from hn1)
    rw [← hn1] at H53 z4 z5
    clear hr hn1
    have key : ∀ root : Bool, (root = false → (15 : Int) ≤ (n : Int)) → Calls Try.prog 40 #[Value.pointer (some ⟨d.p, 0, none⟩), .bool root] w fun e w' => e = .returned (.tuple #[.bool true, .int .i64 ((h + 1 : Nat) : Int), .int .i64 tot]) ∧ w' = w := by
      intro root z2
      rcases Bool.eq_false_or_eq_true root with hr | hr
      · subst hr
        clear z2
        go_enter Try.func40, Try.ntmps40
        go_wp2_with (first | (go_at_call 52; refine H52.out.mono ?_; rintro e1 w1 ⟨rfl, hw⟩; subst w1) | (go_at_call 53; refine H53.out.mono ?_; rintro e1 w1 ⟨rfl, hw⟩; subst w1))
        go_loopw [9, 10, 11] (fun x y z wr => ∃ (m : Nat) (g : Int), wr = w ∧ z = .int .i64 m ∧ m ≤ n1 ∧ x = .int .i64 ((n : Int) + (cntTo h K m : Nat)) ∧ y = .int .i64 g ∧ ((m = 0 ∧ g = -1) ∨ (0 < m ∧ g = h))) (fun _ _ z _ => n1 - (intOf z).toNat)
        case atStart => exact ⟨0, -1, rfl, rfl, Nat.zero_le _, by first | rfl | (simp [cntTo]), rfl, .inl ⟨rfl, rfl⟩⟩
        case round =>
          obtain ⟨m, g, hwr, rfl, hm, rfl, rfl, hg⟩ := hrel
          subst wr
          by_cases hlt : m < n1
          · obtain ⟨c, hc⟩ : ∃ c, K[m]? = some c := ⟨_, List.getElem?_eq_getElem (by rw [HS3.out, ← HN1.out]; exact hlt)⟩
            have H54a := H54.out m c hc
            unfold Chd54 at H54a
            have H54' := hidC H54a
            have H40a := H40.out c (List.mem_of_getElem? hc)
            unfold Shp40 at H40a
            have H40' := hidC H40a
            clear H54a H40a
            have b1 : (n : Int) + (cntTo h K m : Nat) + ((flat h c).length : Int) ≤ 1000000000 := by
              have u1 := cntTo_succ hc
              have u2 := cntTo_le K (m + 1)
              have u3 := HS5.out
              omega
            have HCS : Hid ((n : Int) + (cntTo h K m : Nat) + ((flat h c).length : Int) = (n : Int) + (cntTo h K (m + 1) : Nat)) := by
              have u1 := cntTo_succ hc
              show _ = _
              omega
            obtain ⟨sz, hsz⟩ : ∃ sz, sz = (flat h c).length := ⟨_, rfl⟩
            obtain ⟨ct, hct⟩ : ∃ ct, ct = cntTo h K m := ⟨_, rfl⟩
            rw [← hsz] at H40' b1 HCS
            rw [← hct] at b1 HCS ⊢
            have HCT := (show Hid _ from hct)
            clear hc hsz hct
            have z6 : (m : Int) < (n1 : Int) := by omega
            have z7 : m ≤ 40 := by have := HN1.out; omega
            have z8 : ((h : Int) != (h : Int)) = false := by simp
            rcases hg with ⟨hm0, rfl⟩ | ⟨hm0, rfl⟩
            · clear hm0
              go_wp2_with (first | (go_at_call 54; refine H54'.out.mono ?_; rintro e1 w1 ⟨rfl, hw⟩; subst w1) | (go_at_call 40; refine H40'.out.mono ?_; rintro e1 w1 ⟨rfl, hw⟩; subst w1))
              go_roundw
              case rel => exact ⟨m + 1, h, by trivial, by go_num, by omega, by rw [HCS.out], rfl, .inr ⟨by omega, rfl⟩⟩
              case measure => simp [intOf]; omega
            · go_wp2_with (first | (go_at_call 54; refine H54'.out.mono ?_; rintro e1 w1 ⟨rfl, hw⟩; subst w1) | (go_at_call 40; refine H40'.out.mono ?_; rintro e1 w1 ⟨rfl, hw⟩; subst w1))
              go_roundw
              case rel => exact ⟨m + 1, h, by trivial, by go_num, by omega, by rw [HCS.out], rfl, .inr ⟨by omega, rfl⟩⟩
              case measure => simp [intOf]; omega
          · obtain rfl : m = n1 := by omega
            have hm0 : 0 < m := by have := HN1.out; omega
            obtain rfl : g = h := by
              rcases hg with ⟨h0, _⟩ | ⟨_, h0⟩
              · omega
              · exact h0
            have htot : (n : Int) + (cntTo h K m : Nat) = tot := by
              have u1 := cntTo_all (h := h) (K := K) (m := m) (by rw [HS3.out, ← HN1.out]; exact Nat.le_refl _)
              have u2 := HS5.out
              omega
            rw [htot]
            clear hg htot
            go_wp2
            go_ret3
            exact ⟨rfl, rfl⟩
      · subst hr
        have z2 := z2 rfl
        go_enter Try.func40, Try.ntmps40
        go_wp2_with (first | (go_at_call 52; refine H52.out.mono ?_; rintro e1 w1 ⟨rfl, hw⟩; subst w1) | (go_at_call 53; refine H53.out.mono ?_; rintro e1 w1 ⟨rfl, hw⟩; subst w1))
        go_loopw [9, 10, 11] (fun x y z wr => ∃ (m : Nat) (g : Int), wr = w ∧ z = .int .i64 m ∧ m ≤ n1 ∧ x = .int .i64 ((n : Int) + (cntTo h K m : Nat)) ∧ y = .int .i64 g ∧ ((m = 0 ∧ g = -1) ∨ (0 < m ∧ g = h))) (fun _ _ z _ => n1 - (intOf z).toNat)
        case atStart => exact ⟨0, -1, rfl, rfl, Nat.zero_le _, by first | rfl | (simp [cntTo]), rfl, .inl ⟨rfl, rfl⟩⟩
        case round =>
          obtain ⟨m, g, hwr, rfl, hm, rfl, rfl, hg⟩ := hrel
          subst wr
          by_cases hlt : m < n1
          · obtain ⟨c, hc⟩ : ∃ c, K[m]? = some c := ⟨_, List.getElem?_eq_getElem (by rw [HS3.out, ← HN1.out]; exact hlt)⟩
            have H54a := H54.out m c hc
            unfold Chd54 at H54a
            have H54' := hidC H54a
            have H40a := H40.out c (List.mem_of_getElem? hc)
            unfold Shp40 at H40a
            have H40' := hidC H40a
            clear H54a H40a
            have b1 : (n : Int) + (cntTo h K m : Nat) + ((flat h c).length : Int) ≤ 1000000000 := by
              have u1 := cntTo_succ hc
              have u2 := cntTo_le K (m + 1)
              have u3 := HS5.out
              omega
            have HCS : Hid ((n : Int) + (cntTo h K m : Nat) + ((flat h c).length : Int) = (n : Int) + (cntTo h K (m + 1) : Nat)) := by
              have u1 := cntTo_succ hc
              show _ = _
              omega
            obtain ⟨sz, hsz⟩ : ∃ sz, sz = (flat h c).length := ⟨_, rfl⟩
            obtain ⟨ct, hct⟩ : ∃ ct, ct = cntTo h K m := ⟨_, rfl⟩
            rw [← hsz] at H40' b1 HCS
            rw [← hct] at b1 HCS ⊢
            have HCT := (show Hid _ from hct)
            clear hc hsz hct
            have z6 : (m : Int) < (n1 : Int) := by omega
            have z7 : m ≤ 40 := by have := HN1.out; omega
            have z8 : ((h : Int) != (h : Int)) = false := by simp
            rcases hg with ⟨hm0, rfl⟩ | ⟨hm0, rfl⟩
            · clear hm0
              go_wp2_with (first | (go_at_call 54; refine H54'.out.mono ?_; rintro e1 w1 ⟨rfl, hw⟩; subst w1) | (go_at_call 40; refine H40'.out.mono ?_; rintro e1 w1 ⟨rfl, hw⟩; subst w1))
              go_roundw
              case rel => exact ⟨m + 1, h, by trivial, by go_num, by omega, by rw [HCS.out], rfl, .inr ⟨by omega, rfl⟩⟩
              case measure => simp [intOf]; omega
            · go_wp2_with (first | (go_at_call 54; refine H54'.out.mono ?_; rintro e1 w1 ⟨rfl, hw⟩; subst w1) | (go_at_call 40; refine H40'.out.mono ?_; rintro e1 w1 ⟨rfl, hw⟩; subst w1))
              go_roundw
              case rel => exact ⟨m + 1, h, by trivial, by go_num, by omega, by rw [HCS.out], rfl, .inr ⟨by omega, rfl⟩⟩
              case measure => simp [intOf]; omega
          · obtain rfl : m = n1 := by omega
            have hm0 : 0 < m := by have := HN1.out; omega
            obtain rfl : g = h := by
              rcases hg with ⟨h0, _⟩ | ⟨_, h0⟩
              · omega
              · exact h0
            have htot : (n : Int) + (cntTo h K m : Nat) = tot := by
              have u1 := cntTo_all (h := h) (K := K) (m := m) (by rw [HS3.out, ← HN1.out]; exact Nat.le_refl _)
              have u2 := HS5.out
              omega
            rw [htot]
            clear hg htot
            go_wp2
            go_ret3
            exact ⟨rfl, rfl⟩
    exact key root z2
end Go.Proofs.Qxb6601380a
