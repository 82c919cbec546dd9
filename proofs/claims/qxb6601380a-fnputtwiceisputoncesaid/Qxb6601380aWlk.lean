/-
  zzWalk (41).
-/
import Derived.Test.Qxb6601380aShp
import Derived.Test.Qxb6601380aFrm
namespace Go.Proofs.Qxb6601380a
open Go.RowKit

/-- Both rows longer by one entry. -/
theorem push2 (w : World) (v1 v2 : Value) (es : List Ent) (e : Ent) (hR : Rows2 w v1 v2 es) (hn : es.length ≤ 1000000000) :
    ∃ v1' w1 v2' w2, ((Builtin.append_ #[43, 43] 43 #[v1, .slice (some ⟨w.heap.size, 0, none⟩) 1 1]).run Try.prog (w.alloc (Obj.cells #[Value.string e.1] 9)) = .ok v1' w1) ∧
      ((Builtin.append_ #[44, 44] 44 #[v2, .slice (some ⟨w1.heap.size, 0, none⟩) 1 1]).run Try.prog (w1.alloc (Obj.cells #[Value.int IntKind.u32 e.2] 30)) = .ok v2' w2) ∧
      Rows2 w2 v1' v2' (es ++ [e]) ∧ Moved w w1 (own2 v1 v2) (own2 v1' v2) ∧ Moved w w2 (own2 v1 v2) (own2 v1' v2') := by
  obtain ⟨i0, hi0, hz0, hz1, hz2⟩ := info_parts Try.info9
  obtain ⟨j0, hj0, hy0, hy1, hy2⟩ := info_parts Try.info30
  obtain ⟨W1, hW1⟩ : ∃ W1, W1 = w.alloc (Obj.cells #[Value.string e.1] 9) := ⟨_, rfl⟩
  have g1 : w.grownBy W1 none := by rw [hW1]; exact World.grownBy_alloc _ _ _
  have e1 : BlockAt W1 w.heap.size 9 [.string e.1] := by rw [hW1]; exact blockAt_new w 9 [.string e.1]
  have k1 : W1.ownsRow 0 9 1 v1 es.length (skeys es) := ownsRow_same hR.ks fun x hx => g1.block x (hR.ks.lt x (by simpa using hx)).2 (by simp)
  have k2 : W1.ownsRow 0 30 1 v2 es.length (srecs es) := ownsRow_same hR.rs fun x hx => g1.block x (hR.rs.lt x (by simpa using hx)).2 (by simp)
  obtain ⟨v1', w1, hr1, h1, m1, m2⟩ := run_append_sharp (P := Try.prog) W1 0 43 43 9 i0 (.string ⟨#[]⟩) 1 16 Try.underlying43 hi0 hz0 hz1 hz2 rfl (by decide) v1 es.length (skeys es) k1 ⟨w.heap.size, 0, none⟩ 1 1 [.string e.1] rfl
    (fun z u hu => by rw [Addr.add_lit, Nat.zero_add, e1.cell]; exact hu) (by simp [Value.oneCell']) (by unfold maxLen; omega) (by omega) (Nat.zero_le _)
  have K1 : Kept W1 w1 v1 v1' := ⟨m1, m2⟩
  have k3 := K1.own k2 fun x hx hv => hR.ne x hv hx
  have k3n := K1.apart k2 fun x hx hv => hR.ne x hv hx
  obtain ⟨W2, hW2⟩ : ∃ W2, W2 = w1.alloc (Obj.cells #[Value.int IntKind.u32 e.2] 30) := ⟨_, rfl⟩
  have g2 : w1.grownBy W2 none := by rw [hW2]; exact World.grownBy_alloc _ _ _
  have e2 : BlockAt W2 w1.heap.size 30 [.int .u32 e.2] := by rw [hW2]; exact blockAt_new w1 30 [.int .u32 e.2]
  have k4 : W2.ownsRow 0 30 1 v2 es.length (srecs es) := ownsRow_same k3 fun x hx => g2.block x (k3.lt x (by simpa using hx)).2 (by simp)
  have k5 : W2.ownsRow 0 9 1 v1' (es.length + 1) (skeys es ++ [.string e.1]) := ownsRow_same h1 fun x hx => g2.block x (h1.lt x (by simpa using hx)).2 (by simp)
  obtain ⟨v2', w2, hr2, h2, m3, m4⟩ := run_append_sharp (P := Try.prog) W2 0 44 44 30 j0 (.int .u32 0) 1 4 Try.underlying44 hj0 hy0 hy1 hy2 rfl (by decide) v2 es.length (srecs es) k4 ⟨w1.heap.size, 0, none⟩ 1 1 [.int .u32 e.2] rfl
    (fun z u hu => by rw [Addr.add_lit, Nat.zero_add, e2.cell]; exact hu) (by simp [Value.oneCell']) (by unfold maxLen; omega) (by omega) (Nat.zero_le _)
  have K2 : Kept W2 w2 v2 v2' := ⟨m3, m4⟩
  have k6 := K2.own k5 fun x hx hv => k3n x hv hx
  have k6n := K2.apart k5 fun x hx hv => k3n x hv hx
  have z1 := g1.size
  have z2 := K1.grown.size
  have z3 := g2.size
  have z4 := K2.grown.size
  have M1 : Moved w w1 (own2 v1 v2) (own2 v1' v2) := by
    refine ⟨K1.grown.os.trans g1.os, K1.grown.tape.trans g1.tape, K1.grown.output.trans g1.output, by omega, fun x hx hn => ?_, fun x hx => ?_⟩
    · rw [K1.grown.block x (by omega) fun e => hn (by simp [own2, ← e]), g1.block x hx (by simp)]
    · rcases List.mem_append.1 hx with q | q
      · rcases K1.place x (by simpa using q) with h | h
        · exact .inl (by simp [own2, h])
        · exact .inr (by omega)
      · exact .inl (List.mem_append_right _ q)
  have M2 : Moved w1 w2 (own2 v1' v2) (own2 v1' v2') := by
    refine ⟨K2.grown.os.trans g2.os, K2.grown.tape.trans g2.tape, K2.grown.output.trans g2.output, by omega, fun x hx hn => ?_, fun x hx => ?_⟩
    · rw [K2.grown.block x (by omega) fun e => hn (by simp [own2, ← e]), g2.block x hx (by simp)]
    · rcases List.mem_append.1 hx with q | q
      · exact .inl (List.mem_append_left _ q)
      · rcases K2.place x (by simpa using q) with h | h
        · exact .inl (by simp [own2, h])
        · exact .inr (by omega)
  refine ⟨v1', w1, v2', w2, by rw [← hW1]; exact hr1, by rw [← hW2]; exact hr2, ⟨?_, ?_, k6n⟩, M1, M1.trans M2⟩
  · simpa [skeys] using k6
  · simpa [srecs] using h2

/-- The entries ahead of the m-th of a node, its first m children's with them. -/
def pf : (h : Nat) → T h → Nat → List Ent
  | 0, t, m => t.es.take m
  | h + 1, t, m => inter (t.1.es.take m) ((t.2.take m).map (flat h))

theorem pf_zero : ∀ (h : Nat) (t : T h), pf h t 0 = []
  | 0, _ => rfl
  | _ + 1, _ => rfl

theorem pf_leaf {t : T 0} {m : Nat} {e : Ent} (he : (hd 0 t).es[m]? = some e) : pf 0 t (m + 1) = pf 0 t m ++ [e] := by
  show t.es.take (m + 1) = t.es.take m ++ [e]
  rw [List.take_add_one, show t.es[m]? = some e from he]
  rfl

theorem pf_inner {h : Nat} {d : Hd} {K : List (T h)} {m : Nat} {e : Ent} {c : T h} (he : d.es[m]? = some e) (hc : K[m]? = some c) : pf (h + 1) (d, K) (m + 1) = pf (h + 1) (d, K) m ++ flat h c ++ [e] := by
  show inter (d.es.take (m + 1)) ((K.take (m + 1)).map (flat h)) = inter (d.es.take m) ((K.take m).map (flat h)) ++ flat h c ++ [e]
  have l1 := (List.getElem?_eq_some_iff.1 he).1
  have l2 := (List.getElem?_eq_some_iff.1 hc).1
  rw [List.take_add_one, List.take_add_one, he, hc, List.map_append, inter_app (by simp; omega)]
  simp [inter]

theorem pf_last {h : Nat} {d : Hd} {K : List (T h)} {c : T h} (hK : K.length = d.es.length + 1) (hc : K[d.es.length]? = some c) : flat (h + 1) (d, K) = pf (h + 1) (d, K) d.es.length ++ flat h c := by
  show inter d.es (K.map (flat h)) = inter (d.es.take d.es.length) ((K.take d.es.length).map (flat h)) ++ flat h c
  have e : K = K.take d.es.length ++ [c] := by
    conv => lhs; rw [← List.take_append_drop d.es.length K]
    rw [List.drop_eq_getElem_cons (by omega), List.drop_eq_nil_of_le (by omega)]
    rw [List.getElem?_eq_getElem (by omega)] at hc
    injection hc with hc
    rw [hc]
  have := inter_app (es1 := d.es) (ks1 := (K.take d.es.length).map (flat h)) (by simp; omega) [] [flat h c]
  rw [List.append_nil] at this
  conv => lhs; rw [e]
  rw [List.map_append, List.map_cons, List.map_nil, this, List.take_length]
  simp [inter]

theorem lies_moved {w wr : World} {h : Nat} {t : T h} {v1 v2 u1 u2 : Value} (hL : Lies w h t) (hap : ∀ b ∈ blocks h t, b ∉ own2 v1 v2) (m : Moved w wr (own2 v1 v2) (own2 u1 u2)) : Lies wr h t ∧ ∀ b ∈ blocks h t, b ∉ own2 u1 u2 := by
  refine ⟨hL.same fun b hb => m.block b (hL.lt b hb) (hap b hb), fun b hb hu => ?_⟩
  rcases m.place b hu with q | q
  · exact hap b hb q
  · have := hL.lt b hb; omega

/-- What zzWalk leaves. -/
def WlkPost (w : World) (v1 v2 : Value) (L : List Ent) (e : Ending) (w' : World) : Prop :=
  ∃ v1' v2', e = .returned (.tuple #[v1', v2']) ∧ Rows2 w' v1' v2' L ∧ Moved w w' (own2 v1 v2) (own2 v1' v2')

/-- zzWalk at this tree, whatever the world. -/
def WlkOk (h : Nat) (t : T h) : Prop := ∀ (w : World) (v1 v2 : Value) (es0 : List Ent), Lies w h t → Rows2 w v1 v2 es0 → (∀ b ∈ blocks h t, b ∉ own2 v1 v2) → es0.length + (flat h t).length ≤ 100000000 →
  Calls Try.prog 41 #[Value.pointer (some ⟨(hd h t).p, 0, none⟩), v1, v2] w fun e w' => WlkPost w v1 v2 (es0 ++ flat h t) e w'

theorem moved_refl (w : World) (bs : List Nat) : Moved w w bs bs := Moved.of_grown (World.grownBy.refl _ _) bs

set_option maxHeartbeats 4000000 in
set_option maxRecDepth 100000 in
theorem walk_leaf (t : T 0) (hS : t.es.length ≤ 31) : WlkOk 0 t := by
  intro w v1 v2 es0 hL hR hap hn
  have hN : NodeAt w t [] := hL
  have H52 := hidC (ec52 w t [] hN)
  have H53 := hidC (cc53 w t [] hN)
  have e2 : hd 0 t = t := rfl
  have e3 : flat 0 t = t.es := rfl
  rw [e2]
  rw [e3] at hn ⊢
  unfold ptr at H52 H53
  obtain ⟨n, hnn⟩ : ∃ n, n = t.es.length := ⟨_, rfl⟩
  rw [← hnn] at H52 hn hS
  have HNN := (show Hid _ from hnn)
  have HL := (show Hid (Lies w 0 t) from hL)
  have HAP := (show Hid _ from hap)
  have z1 : (n : Int) ≤ 31 := by omega
  clear e2 e3 hN hL hap hnn
  go_enter Try.func41, Try.ntmps41
  go_wp2_with (first | (go_at_call 52; refine H52.out.mono ?_; rintro e1 w1 ⟨rfl, hw⟩; subst w1) | (go_at_call 53; refine H53.out.mono ?_; rintro e1 w1 ⟨rfl, hw⟩; subst w1))
  go_loopw [1, 2, 10] (fun x y z wr => ∃ m : Nat, z = .int .i64 m ∧ m ≤ n ∧ Rows2 wr x y (es0 ++ pf 0 t m) ∧ Moved w wr (own2 v1 v2) (own2 x y)) (fun _ _ z _ => n - (intOf z).toNat)
  case atStart => exact ⟨0, rfl, Nat.zero_le _, by rw [pf_zero, List.append_nil]; exact hR, moved_refl _ _⟩
  case round =>
    clear hR
    obtain ⟨m, rfl, hm, hR, hM⟩ := hrel
    by_cases hlt : m < n
    · obtain ⟨e, he⟩ : ∃ e, t.es[m]? = some e := ⟨_, List.getElem?_eq_getElem (by rw [← HNN.out]; exact hlt)⟩
      have hLr := lies_moved HL.out HAP.out hM
      have hNr : NodeAt wr t [] := hLr.1
      have hpl : (es0 ++ pf 0 t m).length ≤ 1000000000 := by
        have : (pf 0 t m).length ≤ t.es.length := by show (t.es.take m).length ≤ _; rw [List.length_take]; omega
        rw [List.length_append]
        have := HNN.out
        omega
      obtain ⟨v1', w1, v2', w2, hA1, hA2, hR2, hM1, hM2⟩ := push2 wr u1 u2 _ e hR hpl
      have hL1 : Lies w1 0 t := (lies_moved hLr.1 hLr.2 hM1).1
      have H55 := hidC (na55 wr t [] m e hNr he)
      have H56 := hidC (ra56 w1 t [] m e hL1 he)
      unfold ptr at H55 H56
      have HA1 := (show Hid _ from hA1)
      have HA2 := (show Hid _ from hA2)
      have HFIN : Hid (Rows2 w2 v1' v2' (es0 ++ pf 0 t (m + 1)) ∧ Moved w w2 (own2 v1 v2) (own2 v1' v2')) := by
        refine ⟨?_, hM.trans hM2⟩
        rw [pf_leaf (t := t) he, ← List.append_assoc]
        exact hR2
      clear hA1 hA2 hR2 hM1 hM2 hL1 hLr hNr hR hM hpl he
      obtain ⟨s, r⟩ := e
      simp only at HA1 HA2 H55 H56
      have z2 : (m : Int) < (n : Int) := by omega
      have z3 : m ≤ 40 := by omega
      go_wp2_with (first | (go_at_call 55; refine H55.out.mono ?_; rintro e1 w1 ⟨rfl, hw⟩; subst w1) | (go_at_call 56; refine H56.out.mono ?_; rintro e1 w1 ⟨rfl, hw⟩; subst w1) | (at_builtin; refine wpList_known rfl (exec_append (.tmp 31) (.tmp 35) 43 43 rfl rfl rfl HA1.out) ?_) | (at_builtin; refine wpList_known rfl (exec_append (.tmp 37) (.tmp 41) 44 44 rfl rfl rfl HA2.out) ?_))
      go_roundw
      case rel => exact ⟨m + 1, by go_num, by omega, HFIN.out.1, HFIN.out.2⟩
      case measure => simp [intOf]; omega
    · obtain rfl : m = n := by omega
      have hall : pf 0 t m = t.es := by show t.es.take m = t.es; rw [HNN.out, List.take_length]
      rw [hall] at hR
      have HR := (show Hid _ from hR)
      have HM := (show Hid _ from hM)
      clear hall hR hM
      go_wp2
      go_ret2
      exact ⟨_, _, rfl, HR.out, HM.out⟩

theorem pf_len {h : Nat} (d : Hd) (K : List (T h)) (m : Nat) (hm : m ≤ d.es.length) (hK : K.length = d.es.length + 1) : (pf (h + 1) (d, K) m).length + (match K[m]? with | some c => (flat h c).length | none => 0) ≤ (flat (h + 1) (d, K)).length := by
  have hl : m < K.length := by omega
  have e2 : K = K.take m ++ K[m] :: K.drop (m + 1) := by rw [← List.drop_eq_getElem_cons hl, List.take_append_drop]
  rw [List.getElem?_eq_getElem hl]
  show (inter (d.es.take m) ((K.take m).map (flat h))).length + (flat h K[m]).length ≤ (inter d.es (K.map (flat h))).length
  have e4 : K.map (flat h) = (K.take m).map (flat h) ++ flat h K[m] :: (K.drop (m + 1)).map (flat h) := by
    have := congrArg (List.map (flat h)) e2
    rw [List.map_append, List.map_cons] at this
    exact this
  have e3 : inter d.es (K.map (flat h)) = inter (d.es.take m) ((K.take m).map (flat h)) ++ (flat h K[m] ++ tl (d.es.drop m) ((K.drop (m + 1)).map (flat h))) := by
    rw [← inter_cons, ← inter_app (by simp; omega), List.take_append_drop, ← e4]
  rw [e3, List.length_append, List.length_append]
  omega

set_option maxHeartbeats 4000000 in
set_option maxRecDepth 100000 in
theorem walk_inner (h : Nat) (d : Hd) (K : List (T h)) (hS : d.es.length ≤ 31) (hK : K.length = d.es.length + 1) (ih : ∀ c ∈ K, WlkOk h c) : WlkOk (h + 1) (d, K) := by
  intro w v1 v2 es0 hL hR hap hn
  have hN : NodeAt w d (K.map fun k => (hd h k).p) := hL.1
  have H52 := hidC (ec52 w d _ hN)
  have H53 := hidC (cc53 w d _ hN)
  have e2 : hd (h + 1) (d, K) = d := rfl
  rw [e2]
  rw [List.length_map, hK] at H53
  unfold ptr at H52 H53
  obtain ⟨n, hnn⟩ : ∃ n, n = d.es.length := ⟨_, rfl⟩
  rw [← hnn] at H52 H53 hS
  have HNN := (show Hid _ from hnn)
  have HK := (show Hid _ from hK)
  have HL := (show Hid (Lies w (h + 1) (d, K)) from hL)
  have HAP := (show Hid _ from hap)
  have HB := (show Hid _ from hn)
  have HIH := (show Hid _ from ih)
  have z1 : (n : Int) ≤ 31 := by omega
  obtain ⟨n1, hn1⟩ : ∃ n1, n1 = n + 1 := ⟨_, rfl⟩
  rw [← hn1] at H53
  have z0 : (0 : Int) < (n1 : Int) := by omega
  clear e2 hN hL hap hnn hK hn ih hn1
  go_enter Try.func41, Try.ntmps41
  go_wp2_with (first | (go_at_call 52; refine H52.out.mono ?_; rintro e1 w1 ⟨rfl, hw⟩; subst w1) | (go_at_call 53; refine H53.out.mono ?_; rintro e1 w1 ⟨rfl, hw⟩; subst w1))
  rw [show decide (0 < n1) = true by simp; omega]
  go_loopw [1, 2, 10] (fun x y z wr => ∃ m : Nat, z = .int .i64 m ∧ m ≤ n ∧ Rows2 wr x y (es0 ++ pf (h + 1) (d, K) m) ∧ Moved w wr (own2 v1 v2) (own2 x y)) (fun _ _ z _ => n - (intOf z).toNat)
  case atStart => exact ⟨0, rfl, Nat.zero_le _, by rw [show pf (h + 1) (d, K) 0 = [] from rfl, List.append_nil]; exact hR, moved_refl _ _⟩
  case round =>
    clear hR
    obtain ⟨m, rfl, hm, hR, hM⟩ := hrel
    have hLr := lies_moved HL.out HAP.out hM
    obtain ⟨c, hc⟩ : ∃ c, K[m]? = some c := ⟨_, List.getElem?_eq_getElem (by have := HNN.out; have := HK.out; omega)⟩
    have hcm := List.mem_of_getElem? hc
    have hpl := pf_len d K m (by have := HNN.out; omega) HK.out
    rw [hc] at hpl
    simp only at hpl
    have hlen : (es0 ++ pf (h + 1) (d, K) m).length + (flat h c).length ≤ 100000000 := by
      rw [List.length_append]
      have := HB.out
      omega
    have hNr : NodeAt wr d (K.map fun k => (hd h k).p) := hLr.1.1
    have H54 := hidC (ch54 wr d _ m _ hNr (by rw [List.getElem?_map, hc]; rfl))
    unfold ptr at H54
    have hin : ∀ b ∈ blocks h c, b ∈ blocks (h + 1) (d, K) := fun b hb => List.mem_append_right _ (List.mem_flatMap.2 ⟨c, hcm, hb⟩)
    have h41 := HIH.out c hcm wr u1 u2 _ (hLr.1.2 c hcm) hR (fun b hb => hLr.2 b (hin b hb)) hlen
    have H41 := hidC h41
    clear h41
    by_cases hlt : m < n
    · obtain ⟨e, he⟩ : ∃ e, d.es[m]? = some e := ⟨_, List.getElem?_eq_getElem (by rw [← HNN.out]; exact hlt)⟩
      have z2 : (m : Int) < (n : Int) := by omega
      have z3 : m ≤ 40 := by omega
      have HLR := (show Hid _ from hLr)
      have HM := (show Hid _ from hM)
      have HC := (show Hid _ from hc)
      have HE := (show Hid _ from he)
      have HLEN := (show Hid _ from hlen)
      clear hLr hM hc he hlen hNr hin hpl hR
      go_upto_region 8 with (first | (go_at_call 54; refine H54.out.mono ?_; rintro e1 w1 ⟨rfl, hw⟩; subst w1) | (go_at_call 41; refine H41.out.mono ?_; rintro e1 w1 ⟨x1, x2, rfl, hR1, hM1⟩))
      have hL1 := lies_moved HLR.out.1 HLR.out.2 hM1
      have hN1 : NodeAt w1 d (K.map fun k => (hd h k).p) := hL1.1.1
      obtain ⟨v1', w2, v2', w3, hA1, hA2, hR3, hM2, hM3⟩ := push2 w1 x1 x2 _ e hR1 (by have := HLEN.out; rw [List.length_append]; omega)
      have hN2 : NodeAt w2 d (K.map fun k => (hd h k).p) := (lies_moved hL1.1 hL1.2 hM2).1.1
      have H55 := hidC (na55 w1 d _ m e hN1 HE.out)
      have H56 := hidC (ra56 w2 d _ m e hN2 HE.out)
      unfold ptr at H55 H56
      have HA1 := (show Hid _ from hA1)
      have HA2 := (show Hid _ from hA2)
      have HFIN : Hid (Rows2 w3 v1' v2' (es0 ++ pf (h + 1) (d, K) (m + 1)) ∧ Moved w w3 (own2 v1 v2) (own2 v1' v2')) := by
        refine ⟨?_, (HM.out.trans hM1).trans hM3⟩
        rw [pf_inner HE.out HC.out, ← List.append_assoc, ← List.append_assoc]
        exact hR3
      clear hA1 hA2 hR3 hM1 hM2 hM3 hL1 hN1 hN2 hR1 HE
      obtain ⟨s, r⟩ := e
      simp only at HA1 HA2 H55 H56
      go_wp2_with (first | (go_at_call 55; refine H55.out.mono ?_; rintro e1 w1 ⟨rfl, hw⟩; subst w1) | (go_at_call 56; refine H56.out.mono ?_; rintro e1 w1 ⟨rfl, hw⟩; subst w1) | (at_builtin; refine wpList_known rfl (exec_append (.tmp 31) (.tmp 35) 43 43 rfl rfl rfl HA1.out) ?_) | (at_builtin; refine wpList_known rfl (exec_append (.tmp 37) (.tmp 41) 44 44 rfl rfl rfl HA2.out) ?_))
      go_roundw
      case rel => exact ⟨m + 1, by go_num, by omega, HFIN.out.1, HFIN.out.2⟩
      case measure => simp [intOf]; omega
    · obtain rfl : m = n := by omega
      have hall : flat (h + 1) (d, K) = pf (h + 1) (d, K) m ++ flat h c := by
        have := HNN.out
        subst this
        exact pf_last HK.out hc
      have HALL := (show Hid _ from hall)
      have HM := (show Hid _ from hM)
      clear hall hR hM hc hlen hNr hin hpl hLr
      go_wp2_with (first | (go_at_call 54; refine H54.out.mono ?_; rintro e1 w1 ⟨rfl, hw⟩; subst w1) | (go_at_call 41; refine H41.out.mono ?_; rintro e1 w1 ⟨x1, x2, rfl, hR1, hM1⟩))
      go_ret2
      exact ⟨_, _, rfl, by rw [HALL.out, ← List.append_assoc]; exact hR1, HM.out.trans hM1⟩

theorem walk41 : ∀ (h lo : Nat) (t : T h), Shape lo h t → WlkOk h t
  | 0, _, t, s => walk_leaf t s.2
  | h + 1, _, (d, K), s => walk_inner h d K s.2.1 s.2.2.1 fun c hc => walk41 h 15 c (s.2.2.2 c hc)

end Go.Proofs.Qxb6601380a
