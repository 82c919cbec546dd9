/-
  hasStr (55), sameStrs (54), slices.Index (66), slices.Contains (61), Site.gone (50).
-/
import Derived.Test.Qxb6601448aCln
namespace Go.Proofs.Qxb6601448a
open Go.RowKit

theorem str_same (a : ByteArray) : (a.toList == a.toList) = true := by simp
theorem str_other {a b : ByteArray} (h : a ≠ b) : (a.toList == b.toList) = false := by
  rw [beq_eq_false_iff_ne]
  intro e
  rw [ByteArray.toList_eq, ByteArray.toList_eq] at e
  exact h (WideShapes.bytes_inj e)

/-- Is x among them? -/
def has (ss : List ByteArray) (x : ByteArray) : Bool := ss.any fun s => decide (s = x)

theorem has_take {ss : List ByteArray} {x s : ByteArray} {m : Nat} (h : ss[m]? = some s) : has (ss.take (m + 1)) x = (has (ss.take m) x || decide (s = x)) := by
  unfold has
  rw [List.take_add_one, h]
  simp

theorem has_at {ss : List ByteArray} {x : ByteArray} {m : Nat} (h : ss[m]? = some x) : has ss x = true := by
  unfold has
  rw [List.any_eq_true]
  exact ⟨x, List.mem_of_getElem? h, by simp⟩

set_option maxHeartbeats 4000000 in
set_option maxRecDepth 100000 in
theorem has55 (w : World) (a : Option Addr) (cap : Nat) (ss : List ByteArray) (x : ByteArray) (hC : Cells w a (enS ss)) (hn : ss.length ≤ 1048576) :
    Calls Try.prog 55 #[.slice a ss.length cap, .string x] w fun e w' => e = .returned (.bool (has ss x)) ∧ w' = w := by
  have HC := (show Hid (Cells w a (enS ss)) from hC)
  clear hC
  obtain ⟨n, hnn⟩ : ∃ n, n = ss.length := ⟨_, rfl⟩
  have HN := (show Hid _ from hnn)
  rw [← hnn] at hn ⊢
  clear hnn
  obtain ⟨res, hres⟩ : ∃ res, res = has ss x := ⟨_, rfl⟩
  have HRES := (show Hid _ from hres)
  rw [← hres]
  clear hres
  go_enter Try.func55, Try.ntmps55
  go_wp2
  go_loopw [5] (fun y wr => ∃ m : Nat, wr = w ∧ y = .int .i64 m ∧ m ≤ n ∧ has (ss.take m) x = false) (fun y _ => n - (intOf y).toNat)
  case atStart => exact ⟨0, rfl, rfl, Nat.zero_le _, rfl⟩
  case round =>
    obtain ⟨m, hwr, rfl, hm, hh⟩ := hrel
    subst wr
    have HH := (show Hid _ from hh)
    clear hh
    by_cases hlt : m < n
    · obtain ⟨s, hs⟩ : ∃ s, ss[m]? = some s := ⟨_, List.getElem?_eq_getElem (by rw [← HN.out]; exact hlt)⟩
      obtain ⟨b, off, rfl, t1⟩ := Cells.addr HC.out (enS_get hs)
      have HS := (show Hid _ from hs)
      clear hs
      have z1 : (m : Int) < (n : Int) := by omega
      have z2 : (m : Int) ≤ 2000000 := by omega
      by_cases he : s = x
      · have q1 : (s.toList == x.toList) = true := by rw [he]; exact str_same x
        have HE := (show Hid _ from he)
        clear he
        go_wp2
        go_ret
        refine ⟨?_, rfl⟩
        rw [HRES.out, has_at (by rw [HS.out, HE.out])]
        rfl
      · have q1 : (s.toList == x.toList) = false := str_other he
        have HE := (show Hid _ from he)
        clear he
        go_wp2
        go_roundw
        case rel => exact ⟨m + 1, by trivial, by go_num, by omega, by rw [has_take HS.out, HH.out, decide_eq_false HE.out]; rfl⟩
        case measure => simp [intOf]; omega
    · obtain rfl : m = n := by omega
      have hr : res = false := by rw [HRES.out, ← HH.out, List.take_of_length_le (by rw [HN.out]; exact Nat.le_refl _)]
      subst hr
      go_wp2
      go_ret
      exact ⟨rfl, rfl⟩

/-- Not below 0 just where x is among them. -/
def IdxPost (w : World) (ss : List ByteArray) (x : ByteArray) (e : Ending) (w' : World) : Prop := (∃ z : Int, e = .returned (.int .i64 z) ∧ decide (0 ≤ z) = has ss x) ∧ w' = w

set_option maxHeartbeats 4000000 in
set_option maxRecDepth 100000 in
theorem index66 (w : World) (a : Option Addr) (cap : Nat) (ss : List ByteArray) (x : ByteArray) (hC : Cells w a (enS ss)) (hn : ss.length ≤ 1048576) :
    Calls Try.prog 66 #[.slice a ss.length cap, .string x] w fun e w' => IdxPost w ss x e w' := by
  have HC := (show Hid (Cells w a (enS ss)) from hC)
  clear hC
  obtain ⟨n, hnn⟩ : ∃ n, n = ss.length := ⟨_, rfl⟩
  have HN := (show Hid _ from hnn)
  rw [← hnn] at hn ⊢
  clear hnn
  go_enter Try.func66, Try.ntmps66
  go_wp2
  go_loopw [8] (fun y wr => ∃ m : Nat, wr = w ∧ y = .int .i64 m ∧ m ≤ n ∧ has (ss.take m) x = false) (fun y _ => n - (intOf y).toNat)
  case atStart => exact ⟨0, rfl, rfl, Nat.zero_le _, rfl⟩
  case round =>
    obtain ⟨m, hwr, rfl, hm, hh⟩ := hrel
    subst wr
    have HH := (show Hid _ from hh)
    clear hh
    by_cases hlt : m < n
    · obtain ⟨s, hs⟩ : ∃ s, ss[m]? = some s := ⟨_, List.getElem?_eq_getElem (by rw [← HN.out]; exact hlt)⟩
      obtain ⟨b, off, rfl, t1⟩ := Cells.addr HC.out (enS_get hs)
      have HS := (show Hid _ from hs)
      clear hs
      have z1 : (m : Int) < (n : Int) := by omega
      have z2 : (m : Int) ≤ 2000000 := by omega
      by_cases he : s = x
      · have q1 : (x.toList == s.toList) = true := by rw [he]; exact str_same x
        have HE := (show Hid _ from he)
        clear he
        go_wp2
        go_ret
        refine ⟨⟨_, rfl, ?_⟩, rfl⟩
        rw [has_at (by rw [HS.out, HE.out])]
        simp
      · have q1 : (x.toList == s.toList) = false := str_other (fun e => he e.symm)
        have HE := (show Hid _ from he)
        clear he
        go_wp2
        go_roundw
        case rel => exact ⟨m + 1, by trivial, by go_num, by omega, by rw [has_take HS.out, HH.out, decide_eq_false HE.out]; rfl⟩
        case measure => simp [intOf]; omega
    · obtain rfl : m = n := by omega
      have hr : has ss x = false := by rw [← HH.out, List.take_of_length_le (by rw [HN.out]; exact Nat.le_refl _)]
      have HR := (show Hid _ from hr)
      clear hr
      go_wp2
      go_ret
      exact ⟨⟨_, rfl, by rw [HR.out]; rfl⟩, rfl⟩

set_option maxRecDepth 100000 in
theorem contains61 (w : World) (a : Option Addr) (cap : Nat) (ss : List ByteArray) (x : ByteArray) (hC : Cells w a (enS ss)) (hn : ss.length ≤ 1048576) :
    Calls Try.prog 61 #[.slice a ss.length cap, .string x] w fun e w' => e = .returned (.bool (has ss x)) ∧ w' = w := by
  have H := hidC (index66 w a cap ss x hC hn)
  clear hC
  obtain ⟨n, hnn⟩ : ∃ n, n = ss.length := ⟨_, rfl⟩
  rw [← hnn] at H ⊢
  clear hnn hn
  obtain ⟨res, hres⟩ : ∃ res, res = has ss x := ⟨_, rfl⟩
  have HRES := (show Hid _ from hres)
  rw [← hres]
  clear hres
  go_enter Try.func61, Try.ntmps61
  go_wp2_with (go_at_call 66; refine H.out.mono ?_; rintro e1 w1 ⟨⟨z, rfl, hz⟩, hw⟩; subst w1; rw [← HRES.out] at hz)
  go_ret
  exact ⟨by first | rfl | rw [hz] | (rw [← hz]), rfl⟩

set_option maxRecDepth 100000 in
theorem gone50 (w : World) (nm : ByteArray) (pv : Value) (hp : ∃ a n c, pv = .slice a n c) (a : Option Addr) (cap : Nat) (ss : List ByteArray) (x : ByteArray) (hC : Cells w a (enS ss)) (hn : ss.length ≤ 1048576) :
    Calls Try.prog 50 #[.agg #[.string nm, pv, .slice a ss.length cap], .string x] w fun e w' => e = .returned (.bool (has ss x)) ∧ w.grownBy w' none := by
  obtain ⟨pa, pn, pc, rfl⟩ := hp
  obtain ⟨W, hW⟩ : ∃ W, W = w.alloc (Obj.cells #[.string nm, .slice pa pn pc, .slice a ss.length cap] 52) := ⟨_, rfl⟩
  have g : w.grownBy W none := by rw [hW]; exact World.grownBy_alloc _ _ _
  have H := hidC (contains61 W a cap ss x (hC.grown g) hn)
  rw [hW] at H g
  have G := (show Hid _ from g)
  clear hC hn g hW W
  obtain ⟨n, hnn⟩ : ∃ n, n = ss.length := ⟨_, rfl⟩
  rw [← hnn] at H G ⊢
  clear hnn
  obtain ⟨res, hres⟩ : ∃ res, res = has ss x := ⟨_, rfl⟩
  rw [← hres] at H ⊢
  clear hres
  go_enter Try.func50, Try.ntmps50
  go_wp2_with (go_at_call 61; refine H.out.mono ?_; rintro e1 w1 ⟨rfl, hw⟩; subst w1)
  go_ret
  exact ⟨rfl, G.out⟩

set_option maxHeartbeats 4000000 in
set_option maxRecDepth 100000 in
theorem same54 (w : World) (a b : Option Addr) (c1 c2 : Nat) (ss : List ByteArray) (h1 : Cells w a (enS ss)) (h2 : Cells w b (enS ss)) (hn : ss.length ≤ 1048576) :
    Calls Try.prog 54 #[.slice a ss.length c1, .slice b ss.length c2] w fun e w' => e = .returned (.bool true) ∧ ∃ q, w' = w.drewN q := by
  have H1 := (show Hid (Cells w a (enS ss)) from h1)
  have H2 := (show Hid (Cells w b (enS ss)) from h2)
  clear h1 h2
  obtain ⟨n, hnn⟩ : ∃ n, n = ss.length := ⟨_, rfl⟩
  have HN := (show Hid _ from hnn)
  rw [← hnn] at hn ⊢
  clear hnn
  have d1 : ((n : Int) != (n : Int)) = false := by simp
  go_enter Try.func54, Try.ntmps54
  go_wp2
  go_loopw [5] (fun y wr => ∃ m : Nat, y = .int .i64 m ∧ m ≤ n ∧ ∃ q, wr = w.drewN q) (fun y _ => n - (intOf y).toNat)
  case atStart => exact ⟨0, rfl, Nat.zero_le _, 0, rfl⟩
  case round =>
    obtain ⟨m, rfl, hm, q, rfl⟩ := hrel
    by_cases hlt : m < n
    · obtain ⟨s, hs⟩ : ∃ s, ss[m]? = some s := ⟨_, List.getElem?_eq_getElem (by rw [← HN.out]; exact hlt)⟩
      obtain ⟨b1, off1, rfl, t1⟩ := Cells.addr H1.out (enS_get hs)
      obtain ⟨b2, off2, rfl, t2⟩ := Cells.addr H2.out (enS_get hs)
      clear hs
      have z1 : (m : Int) < (n : Int) := by omega
      have z2 : (m : Int) ≤ 2000000 := by omega
      have z3 : (s.toList == s.toList) = true := by simp
      go_wp2
      go_quiet (fail)
      go_wp2
      go_roundw
      case rel => exact ⟨m + 1, by go_num, by omega, _, rfl⟩
      case measure => simp [intOf]; omega
    · obtain rfl : m = n := by omega
      go_wp2
      go_ret
      exact ⟨rfl, q, rfl⟩

end Go.Proofs.Qxb6601448a
