/-
  slices.IndexFunc (62), slices.DeleteFunc (58), at the method value site.gone.
-/
import Derived.Test.Qxb6601448aHas
import Derived.Test.Qxb6601448aApp
namespace Go.Proofs.Qxb6601448a
open Go.RowKit

/-- Those that are not among ex. -/
def keep (ex ss : List ByteArray) : List ByteArray := ss.filter fun s => !has ex s

theorem keep_take {ex ss : List ByteArray} {s : ByteArray} {j : Nat} (h : ss[j]? = some s) : keep ex (ss.take (j + 1)) = keep ex (ss.take j) ++ (if has ex s then [] else [s]) := by
  unfold keep
  rw [List.take_add_one, h, List.filter_append]
  cases hs : has ex s <;> simp [hs]

theorem keep_len (ex ss : List ByteArray) : (keep ex ss).length ≤ ss.length := List.length_filter_le _ _

theorem keep_all {ex ss : List ByteArray} (h : ∀ s ∈ ss, has ex s = false) : keep ex ss = ss := by
  unfold keep
  rw [List.filter_eq_self]
  intro s hs
  rw [h s hs]
  rfl

/-- The site's method value, and what it needs: its own list of those that are gone. -/
structure GoneAt (w0 : World) (nm : ByteArray) (pv : Value) (ae : Option Addr) (ce : Nat) (ex : List ByteArray) : Prop where
  pv : ∃ a n c, pv = .slice a n c
  cells : Cells w0 ae (enS ex)
  len : ex.length ≤ 1048576

def IdxF (w : World) (ex ss : List ByteArray) (e : Ending) (w' : World) : Prop :=
  (∃ z : Int, e = .returned (.int .i64 z) ∧ ((z = -1 ∧ ∀ s ∈ ss, has ex s = false) ∨ ∃ i : Nat, z = (i : Int) ∧ i < ss.length ∧ (∀ s ∈ ss.take i, has ex s = false) ∧ ∃ s, ss[i]? = some s ∧ has ex s = true)) ∧ w.grownBy w' none

set_option maxHeartbeats 4000000 in
set_option maxRecDepth 100000 in
theorem indexf62 (w0 w : World) (nm : ByteArray) (pv : Value) (ae : Option Addr) (ce : Nat) (ex : List ByteArray) (hG : GoneAt w0 nm pv ae ce ex) (hw : Below w0.heap.size w0 w) (a : Option Addr) (cap : Nat) (ss : List ByteArray) (hC : Cells w a (enS ss)) (hn : ss.length ≤ 1048576) :
    Calls Try.prog 62 #[.slice a ss.length cap, .func (.func 50) #[.agg #[.string nm, pv, .slice ae ex.length ce]] #[]] w fun e w' => IdxF w ex ss e w' := by
  have HC := (show Hid (Cells w a (enS ss)) from hC)
  have HG := (show Hid _ from hG)
  have HW := (show Hid _ from hw)
  clear hC hw
  obtain ⟨n, hnn⟩ : ∃ n, n = ss.length := ⟨_, rfl⟩
  have HN := (show Hid _ from hnn)
  obtain ⟨k, hkk⟩ : ∃ k, k = ex.length := ⟨_, rfl⟩
  have HK := (show Hid _ from hkk)
  rw [← hnn] at hn ⊢
  rw [← hkk]
  obtain ⟨pa, pn, pc, rfl⟩ := hG.pv
  clear hG hnn hkk
  go_enter Try.func62, Try.ntmps62
  go_wp2
  go_loopw [8] (fun y wr => ∃ m : Nat, y = .int .i64 m ∧ m ≤ n ∧ (∀ s ∈ ss.take m, has ex s = false) ∧ w.grownBy wr none) (fun y _ => n - (intOf y).toNat)
  case atStart => exact ⟨0, rfl, Nat.zero_le _, fun s hs => by simp at hs, World.grownBy.refl _ _⟩
  case round =>
    obtain ⟨m, rfl, hm, hall, hg⟩ := hrel
    have HALL := (show Hid _ from hall)
    have HGR := (show Hid _ from hg)
    clear hall
    by_cases hlt : m < n
    · obtain ⟨s, hs⟩ : ∃ s, ss[m]? = some s := ⟨_, List.getElem?_eq_getElem (by rw [← HN.out]; exact hlt)⟩
      obtain ⟨b, off, rfl, t1⟩ := Cells.addr (Cells.grown HC.out hg) (enS_get hs)
      have h50 := gone50 wr nm (.slice pa pn pc) ⟨_, _, _, rfl⟩ ae ce ex s (Cells.below HG.out.cells (HW.out.trans ((below_grown hg).mono HW.out.size)) (Nat.le_refl _)) HG.out.len
      rw [← HK.out] at h50
      have H50 := hidC h50
      have HS := (show Hid _ from hs)
      clear hs h50 hg
      have z1 : (m : Int) < (n : Int) := by omega
      have z2 : (m : Int) ≤ 2000000 := by omega
      cases hh : has ex s with
      | true =>
        have HH := (show Hid _ from hh)
        rw [hh] at H50
        clear hh
        go_wp2_with (go_at_call 50; refine H50.out.mono ?_; rintro e1 w1 ⟨rfl, g1⟩)
        go_ret
        exact ⟨⟨_, rfl, .inr ⟨m, rfl, by rw [← HN.out]; omega, HALL.out, s, HS.out, HH.out⟩⟩, grown_trans HGR.out g1⟩
      | false =>
        have HH := (show Hid _ from hh)
        rw [hh] at H50
        clear hh
        go_wp2_with (go_at_call 50; refine H50.out.mono ?_; rintro e1 w1 ⟨rfl, g1⟩)
        go_roundw
        case rel =>
          refine ⟨m + 1, by go_num, by omega, fun t ht => ?_, grown_trans HGR.out g1⟩
          rw [List.take_add_one, HS.out] at ht
          rcases List.mem_append.1 ht with q | q
          · exact HALL.out t q
          · obtain rfl : t = s := by simpa using q
            exact HH.out
        case measure => simp [intOf]; omega
    · obtain rfl : m = n := by omega
      have hall : ∀ s ∈ ss, has ex s = false := by
        have := HALL.out
        rw [List.take_of_length_le (by rw [HN.out]; exact Nat.le_refl _)] at this
        exact this
      have HA := (show Hid _ from hall)
      clear hall hg
      go_wp2
      go_ret
      exact ⟨⟨_, rfl, .inl ⟨rfl, HA.out⟩⟩, HGR.out⟩

theorem zero_one (z : Array Value) (h0 : 0 < z.size) (h : ∀ k : Fin z.size, (z[k.1]!).oneCell' = true) (n : Nat) : ∀ v ∈ (Builtin.zeroCells z n).toList, v.oneCell' = true := by
  intro v hv
  simp only [Builtin.zeroCells, Array.toList_map, List.mem_map] at hv
  obtain ⟨k, _, rfl⟩ := hv
  exact h ⟨k % z.size, Nat.mod_lt _ h0⟩

/-- What DeleteFunc leaves. -/
def DelPost (w0 : World) (ks : List ByteArray) (e : Ending) (w' : World) : Prop := ∃ a c, e = .returned (.slice a ks.length c) ∧ Cells w' a (enS ks) ∧ New w0 a ∧ Below w0.heap.size w0 w'

theorem set_mid (A M : List Value) (x : Value) (Y : List Value) (v : Value) : (A ++ (x :: M) ++ Y).set A.length v = (A ++ [v]) ++ M ++ Y := by
  rw [List.append_assoc, List.set_append_right _ _ (Nat.le_refl _), Nat.sub_self]
  simp

set_option maxHeartbeats 8000000 in
set_option maxRecDepth 100000 in
theorem delf58 (w0 w : World) (nm : ByteArray) (pv : Value) (ae : Option Addr) (ce : Nat) (ex : List ByteArray) (hG : GoneAt w0 nm pv ae ce ex) (hw : Below w0.heap.size w0 w) (v : Value) (ss : List ByteArray) (hO : w.ownsRow w0.heap.size 9 1 v ss.length (enS ss)) (hn : ss.length ≤ 1048576) :
    Calls Try.prog 58 #[v, .func (.func 50) #[.agg #[.string nm, pv, .slice ae ex.length ce]] #[]] w fun e w' => DelPost w0 (keep ex ss) e w' := by
  rcases (own_open hO).2 with ⟨rfl, h0, _⟩ | ⟨g, cap, rest, rfl, hg0, hnc, hcm, hrl, hB⟩
  · have hss : ss = [] := List.eq_nil_of_length_eq_zero h0
    subst hss
    have H62 := hidC (indexf62 w0 w nm pv ae ce ex hG hw none 0 [] (.inl rfl) (Nat.zero_le _))
    have HW := (show Hid _ from hw)
    clear hG hw hO
    rw [List.length_nil] at H62
    go_enter Try.func58, Try.ntmps58
    go_upto_region 2 with (go_at_call 62; refine H62.out.mono ?_; rintro e1 w1 ⟨⟨z, rfl, hz⟩, g1⟩)
    have hz1 : z = -1 := by
      rcases hz with ⟨h, _⟩ | ⟨i, _, h, _⟩
      · exact h
      · simp at h
    subst hz1
    go_wp2
    go_ret
    exact ⟨none, 0, rfl, .inl rfl, new_nil _, HW.out.trans ((below_grown g1).mono HW.out.size)⟩
  · have H62 := hidC (indexf62 w0 w nm pv ae ce ex hG hw (some ⟨g, 0, none⟩) cap ss (block_cells hB) hn)
    have HW := (show Hid _ from hw)
    have HG := (show Hid _ from hG)
    have HB := (show Hid _ from hB)
    obtain ⟨pa, pn, pc, hpv⟩ := hG.pv
    subst hpv
    clear hG hw hO hB
    obtain ⟨n, hnn⟩ : ∃ n, n = ss.length := ⟨_, rfl⟩
    have HN := (show Hid _ from hnn)
    obtain ⟨k, hkk⟩ : ∃ k, k = ex.length := ⟨_, rfl⟩
    have HK := (show Hid _ from hkk)
    rw [← hnn, ← hkk] at H62
    rw [← hnn] at hn hnc hrl ⊢
    rw [← hkk]
    clear hnn hkk
    go_enter Try.func58, Try.ntmps58
    go_upto_region 2 with (go_at_call 62; refine H62.out.mono ?_; rintro e1 w1 ⟨⟨z, rfl, hz⟩, g1⟩)
    have hW1 : Below w0.heap.size w0 w1 := HW.out.trans ((below_grown g1).mono HW.out.size)
    have hB1 : BlockAt w1 g 9 (enS ss ++ rest) := BlockAt.grown HB.out g1 (by simp)
    rcases hz with ⟨rfl, hall⟩ | ⟨i, rfl, hin, hall, s0, hs0, hh0⟩
    · have hk : keep ex ss = ss := keep_all hall
      have HKP := (show Hid _ from hk)
      have HB1 := (show Hid _ from hB1)
      have HW1 := (show Hid _ from hW1)
      clear hk hall hB1 hW1
      go_wp2
      go_ret
      rw [HKP.out]
      exact ⟨some ⟨g, 0, none⟩, cap, by rw [← HN.out]; rfl, block_cells HB1.out, fun x hx => by cases hx; exact hg0, HW1.out⟩
    · obtain ⟨i0, hi0, hz0, hz1, hz2⟩ := info_parts Try.info9
      have hk0 : keep ex (ss.take (i + 1)) = ss.take i := by rw [keep_take hs0, hh0, keep_all hall]; simp
      have hin' : i < n := by rw [HN.out]; exact hin
      have hst : BlockAt w1 g 9 (enS (keep ex (ss.take (i + 1))) ++ [.string s0] ++ (enS (ss.drop (i + 1)) ++ rest)) := by
        rw [hk0]
        have e : ss = ss.take i ++ [s0] ++ ss.drop (i + 1) := by
          rw [List.getElem?_eq_getElem hin] at hs0
          injection hs0 with hs0
          rw [← hs0, List.append_assoc, List.singleton_append, ← List.drop_eq_getElem_cons hin, List.take_append_drop]
        have e2 : enS ss = enS (ss.take i) ++ [.string s0] ++ enS (ss.drop (i + 1)) := by
          have := congrArg enS e
          rw [this]
          simp [enS]
        rw [e2] at hB1
        simpa using hB1
      have hl0 : (keep ex (ss.take (i + 1))).length = i := by rw [hk0, List.length_take]; omega
      have START : Hid (∃ (j i' : Nat) (M : List Value), i = i' ∧ i + 1 = j ∧ j ≤ n ∧ i' < j ∧ (keep ex (ss.take j)).length = i' ∧ i' + M.length = j ∧ BlockAt w1 g 9 (enS (keep ex (ss.take j)) ++ M ++ (enS (ss.drop j) ++ rest)) ∧ Below w0.heap.size w0 w1) :=
        ⟨i + 1, i, [.string s0], rfl, rfl, by omega, by omega, hl0, rfl, hst, hW1⟩
      have y1 : (i : Int) ≤ 2000000 := by omega
      have y2 : ((i : Int) == -1) = false := by simp
      have HRL := (show Hid _ from hrl)
      clear hst hl0 hk0 hB1 hW1 hall hs0 hh0 hin HB H62 hrl
      go_wp2
      go_loopw [5, 6] (fun x y wr => ∃ (j i' : Nat) (M : List Value), x = .int .i64 i' ∧ y = .int .i64 j ∧ j ≤ n ∧ i' < j ∧ (keep ex (ss.take j)).length = i' ∧ i' + M.length = j ∧ BlockAt wr g 9 (enS (keep ex (ss.take j)) ++ M ++ (enS (ss.drop j) ++ rest)) ∧ Below w0.heap.size w0 wr) (fun _ y _ => n - (intOf y).toNat)
      case atStart =>
        obtain ⟨j, i', M, h1, h2, h3⟩ := START.out
        exact ⟨j, i', M, by rw [← h1], by rw [← h2]; go_num, h3⟩
      case round =>
        clear START
        obtain ⟨j, i', M, rfl, rfl, hj, hij, hX, hM, hBr, hbe⟩ := hrel
        have hXl : (enS (keep ex (ss.take j))).length = i' := by rw [enS, List.length_map, hX]
        have HBE := (show Hid _ from hbe)
        have HBR := (show Hid _ from hBr)
        have HXL := (show Hid _ from hXl)
        have HX := (show Hid _ from hX)
        have HM := (show Hid _ from hM)
        by_cases hlt : j < n
        · obtain ⟨s, hs⟩ : ∃ s, ss[j]? = some s := ⟨_, List.getElem?_eq_getElem (by rw [← HN.out]; exact hlt)⟩
          have hdr : enS (ss.drop j) = .string s :: enS (ss.drop (j + 1)) := by
            have hjl : j < ss.length := by rw [← HN.out]; exact hlt
            rw [List.drop_eq_getElem_cons hjl]
            rw [List.getElem?_eq_getElem hjl] at hs
            injection hs with hs
            rw [hs]
            rfl
          have t1 : wr.cell? ⟨g, j, none⟩ = some (.string s) := by
            rw [hBr.cell, List.getElem?_append_right (by rw [List.length_append, hXl]; omega), List.length_append, hXl, hM, Nat.sub_self, hdr]
            rfl
          obtain ⟨m0, M', rfl⟩ : ∃ m0 M', M = m0 :: M' := by
            cases M with
            | nil => simp at hM; omega
            | cons m0 M' => exact ⟨m0, M', rfl⟩
          have h50 := gone50 wr nm (.slice pa pn pc) ⟨_, _, _, rfl⟩ ae ce ex s (Cells.below HG.out.cells hbe (Nat.le_refl _)) HG.out.len
          rw [← HK.out] at h50
          have H50 := hidC h50
          have HS := (show Hid _ from hs)
          have HDR := (show Hid _ from hdr)
          have hafter : ∀ w2, wr.grownBy w2 none → (w2.cell? ⟨g, i', none⟩ = some m0 ∧ w2.frozen? ⟨g, i', none⟩ = false) := by
            intro w2 g2
            have hB2 := BlockAt.grown HBR.out g2 (by simp)
            refine ⟨?_, hB2.frozen i'⟩
            rw [hB2.cell, List.append_assoc, List.getElem?_append_right (by rw [HXL.out]; exact Nat.le_refl _), HXL.out, Nat.sub_self]
            rfl
          have HAF := (show Hid _ from hafter)
          clear hs h50 hdr hBr hbe hXl hX hM hafter
          have z1 : (j : Int) < (n : Int) := by omega
          have z2 : (j : Int) ≤ 2000000 := by omega
          have z3 : (i' : Int) < (n : Int) := by omega
          have z4 : (i' : Int) ≤ 2000000 := by omega
          have z5 : i' ≤ 2000000 := by omega
          cases hh : has ex s with
          | true =>
            have HH := (show Hid _ from hh)
            rw [hh] at H50
            clear hh
            go_wp2_with (go_at_call 50; refine H50.out.mono ?_; rintro e1 w2 ⟨rfl, g2⟩)
            go_roundw
            case rel =>
              have hkt : keep ex (ss.take (j + 1)) = keep ex (ss.take j) := by rw [keep_take HS.out, HH.out]; simp
              refine ⟨j + 1, i', (m0 :: M') ++ [.string s], rfl, by go_num, by omega, by omega, by rw [hkt]; exact HX.out, by have := HM.out; simp only [List.length_append, List.length_cons, List.length_nil] at this ⊢; omega, ?_, HBE.out.trans ((below_grown g2).mono HBE.out.size)⟩
              have hB2 := BlockAt.grown HBR.out g2 (by simp)
              rw [HDR.out] at hB2
              rw [hkt]
              simpa using hB2
            case measure => simp [intOf]; omega
          | false =>
            have HH := (show Hid _ from hh)
            rw [hh] at H50
            clear hh
            go_wp2_with (go_at_call 50; refine H50.out.mono ?_; rintro e1 w2 ⟨rfl, g2⟩; obtain ⟨x1, x2⟩ := HAF.out w2 g2)
            go_roundw
            case rel =>
              have hkt : keep ex (ss.take (j + 1)) = keep ex (ss.take j) ++ [s] := by rw [keep_take HS.out, HH.out]; simp
              refine ⟨j + 1, i' + 1, M' ++ [.string s], by go_num, by go_num, by omega, by omega, by rw [hkt, List.length_append, HX.out]; rfl, by have := HM.out; simp only [List.length_append, List.length_cons, List.length_nil] at this ⊢; omega, ?_, (HBE.out.trans ((below_grown g2).mono HBE.out.size)).setCell (p := ⟨g, i', none⟩) hg0 _⟩
              have hB2 := (BlockAt.grown HBR.out g2 (by simp)).set i' (.string s)
              rw [HDR.out, ← HXL.out, set_mid] at hB2
              rw [hkt]
              have hXo := HX.out
              subst hXo
              simpa [enS] using hB2
            case measure => simp [intOf]; omega
        · obtain rfl : j = n := by omega
          have hall : ss.take j = ss := List.take_of_length_le (by rw [← HN.out]; exact Nat.le_refl _)
          have hdn : ss.drop j = [] := List.drop_eq_nil_of_le (by rw [← HN.out]; exact Nat.le_refl _)
          rw [hall, hdn] at hBr
          rw [hall] at HX HXL
          have hlen : (enS (keep ex ss) ++ M ++ (enS [] ++ rest)).length = i' + M.length + rest.length := by simp [enS, HX.out]; omega
          have hcl := fun ty => run_clear_rowS (P := Try.prog) wr 23 ty 9 g i' (j - i') (cap - i') _ 9 i0 (.string ⟨#[]⟩) Try.underlying23 hi0 hz0 hBr (by omega) (by rw [hlen]; show i' + (j - i') * 1 ≤ _; omega) (zero_one _ (by decide) (by decide) _)
          have hB5 := hBr.row (List.take i' (enS (keep ex ss) ++ M ++ (enS [] ++ rest)) ++ (Builtin.zeroCells (Value.string ⟨#[]⟩).cells (j - i')).toList ++ List.drop (i' + (j - i') * (Value.string ⟨#[]⟩).cells.size) (enS (keep ex ss) ++ M ++ (enS [] ++ rest)))
          obtain ⟨w5, hw5⟩ : ∃ w5, w5 = wr.setRow g (List.take i' (enS (keep ex ss) ++ M ++ (enS [] ++ rest)) ++ (Builtin.zeroCells (Value.string ⟨#[]⟩).cells (j - i')).toList ++ List.drop (i' + (j - i') * (Value.string ⟨#[]⟩).cells.size) (enS (keep ex ss) ++ M ++ (enS [] ++ rest))).toArray := ⟨_, rfl⟩
          have hbe5 : Below w0.heap.size w0 w5 := by rw [hw5]; exact hbe.grown (grown_row _ _ _) hbe.size (fun q e => by injection e with e; omega)
          rw [← hw5] at hB5
          simp only [← hw5] at hcl
          rw [show List.take i' (enS (keep ex ss) ++ M ++ (enS [] ++ rest)) = enS (keep ex ss) by rw [List.append_assoc, List.take_append_of_le_length (by rw [HXL.out]; exact Nat.le_refl _), List.take_of_length_le (by rw [HXL.out]; exact Nat.le_refl _)], List.append_assoc] at hB5
          have HB5 := (show Hid _ from hB5)
          have HBE5 := (show Hid _ from hbe5)
          clear hB5 hbe5 hw5 hlen hBr hbe hXl hX hM hall hdn
          have z1 : (i' : Int) ≤ (j : Int) := by omega
          have z2 : (j : Int) ≤ (cap : Int) := by omega
          have z3 : (i' : Int) ≤ 2000000 := by omega
          have z4 : ¬ cap = i' := by omega
          have z5 : i' ≤ j := by omega
          have z6 : i' ≤ cap := by omega
          have z7 : (i' : Int) ≤ (cap : Int) := by omega
          go_wp2
          go_ret
          exact ⟨some ⟨g, 0, none⟩, cap, by rw [HX.out]; rfl, block_cells HB5.out, fun x hx => by cases hx; exact hg0, HBE5.out⟩

end Go.Proofs.Qxb6601448a
