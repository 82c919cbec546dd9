/-
  addB (9), bytesOfStrs (41), bytesOfWords (42), bytesOfNested (43).
-/
import Derived.Test.Qxb6601448aRows
import Derived.Test.Qxb6601448aStr
import Derived.WalkSpells
import Derived.WalkLawsBesides
import Derived.Deep.DeepCutAuto
import Derived.BigQuiet
namespace Go.Proofs.Qxb6601448a
open Go.RowKit

/-- Some number from 0 to 1048577; nothing else. -/
def Numb (w : World) (e : Ending) (w' : World) : Prop := (∃ z : Int, e = .returned (.int .i64 z) ∧ 0 ≤ z ∧ z ≤ 1048577) ∧ w' = w

set_option maxRecDepth 100000 in
theorem add9 (a b : Int) (w : World) (ha : 0 ≤ a) (hb : 0 ≤ b) (hb2 : b ≤ 9223372036854775807) (ha2 : a ≤ 9223372036854775807) : Calls Try.prog 9 #[.int .i64 a, .int .i64 b] w fun e w' => Numb w e w' := by
  by_cases h1 : (1048576 : Int) < a
  · go_enter Try.func9, Try.ntmps9
    go_wp2
    go_ret
    exact ⟨⟨_, rfl, by omega, by omega⟩, rfl⟩
  by_cases h2 : (1048576 : Int) < b
  · have h1' : a ≤ 1048576 := by omega
    clear h1
    go_enter Try.func9, Try.ntmps9
    go_wp2
    go_ret
    exact ⟨⟨_, rfl, by omega, by omega⟩, rfl⟩
  have h1' : a ≤ 1048576 := by omega
  have h2' : b ≤ 1048576 := by omega
  clear h1 h2 ha2 hb2
  by_cases h3 : (1048576 : Int) < a + b
  · go_enter Try.func9, Try.ntmps9
    go_wp2
    go_ret
    exact ⟨⟨_, rfl, by omega, by omega⟩, rfl⟩
  · have h3' : a + b ≤ 1048576 := by omega
    clear h3
    go_enter Try.func9, Try.ntmps9
    go_wp2
    go_ret
    exact ⟨⟨_, rfl, by omega, by omega⟩, rfl⟩

set_option maxHeartbeats 4000000 in
set_option maxRecDepth 100000 in
theorem strs41 (w : World) (a : Option Addr) (cap : Nat) (ss : List ByteArray) (hC : Cells w a (enS ss)) (hn : ss.length ≤ maxLen) (hz : ∀ s ∈ ss, s.size ≤ maxLen) :
    Calls Try.prog 41 #[.slice a ss.length cap] w fun e w' => Numb w e w' := by
  unfold maxLen at hn hz
  have HC := (show Hid (Cells w a (enS ss)) from hC)
  have HZ := (show Hid _ from hz)
  clear hC hz
  obtain ⟨n, hnn⟩ : ∃ n, n = ss.length := ⟨_, rfl⟩
  have HN := (show Hid _ from hnn)
  rw [← hnn] at hn ⊢
  clear hnn
  go_enter Try.func41, Try.ntmps41
  go_wp2
  go_loopw [3, 4] (fun x y wr => ∃ (m : Nat) (z : Int), wr = w ∧ y = .int .i64 m ∧ m ≤ n ∧ x = .int .i64 z ∧ 0 ≤ z ∧ z ≤ 1048576) (fun _ y _ => n - (intOf y).toNat)
  case atStart => exact ⟨0, 0, rfl, rfl, Nat.zero_le _, rfl, by omega, by omega⟩
  case round =>
    obtain ⟨m, z, hwr, rfl, hm, rfl, hz0, hz1⟩ := hrel
    subst wr
    by_cases hlt : m < n
    · have hme : m < ss.length := by rw [← HN.out]; exact hlt
      obtain ⟨s, hs⟩ : ∃ s, ss[m]? = some s := ⟨_, List.getElem?_eq_getElem hme⟩
      obtain ⟨b, off, rfl, t1⟩ := Cells.addr HC.out (enS_get hs)
      have hsz := HZ.out s (List.mem_of_getElem? hs)
      clear hs
      have H1 := hidC (add9 16 (s.size : Int) w (by omega) (by omega) (by omega) (by omega))
      have z1 : (m : Int) < (n : Int) := by omega
      have z2 : (m : Int) ≤ 9223372036854775806 := by omega
      go_upto_region 6 with (go_at_call 9; first | (refine H1.out.mono ?_; clear H1; rintro e1 w1 ⟨⟨q, rfl, hq0, hq1⟩, hw⟩; subst w1) | (refine (add9 z q w hz0 hq0 (by omega) (by omega)).mono ?_; rintro e1 w1 ⟨⟨p, rfl, hp0, hp1⟩, hw⟩; subst w1))
      by_cases hbig : (1048576 : Int) < p
      · go_wp2
        go_ret
        exact ⟨⟨_, rfl, by omega, by omega⟩, rfl⟩
      · have hp2 : p ≤ 1048576 := by omega
        clear hbig
        go_wp2
        go_roundw
        case rel => exact ⟨m + 1, p, by trivial, by go_num, by omega, rfl, by omega, by omega⟩
        case measure => simp [intOf]; omega
    · obtain rfl : m = n := by omega
      go_wp2
      go_ret
      exact ⟨⟨_, rfl, by omega, by omega⟩, rfl⟩

set_option maxRecDepth 100000 in
theorem words42 (w : World) (a : Option Addr) (n cap : Nat) (hn : n ≤ maxLen) : Calls Try.prog 42 #[.slice a n cap] w fun e w' => Numb w e w' := by
  unfold maxLen at hn
  by_cases h1 : (131072 : Int) < (n : Int)
  · go_enter Try.func42, Try.ntmps42
    go_wp2
    go_ret
    exact ⟨⟨_, rfl, by omega, by omega⟩, rfl⟩
  · have h2 : (n : Int) ≤ 131072 := by omega
    clear h1 hn
    go_enter Try.func42, Try.ntmps42
    go_wp2
    go_ret
    exact ⟨⟨_, rfl, by omega, by omega⟩, rfl⟩

set_option maxHeartbeats 4000000 in
set_option maxRecDepth 100000 in
theorem nested43 (w : World) (a : Option Addr) (cap : Nat) (sss : List (Option Addr × Nat × List ByteArray)) (hC : Nest w a sss) (hn : sss.length ≤ maxLen) (hz : ∀ t ∈ sss, t.2.2.length ≤ maxLen ∧ ∀ s ∈ t.2.2, s.size ≤ maxLen) :
    Calls Try.prog 43 #[.slice a sss.length cap] w fun e w' => Numb w e w' := by
  have HC := (show Hid (Nest w a sss) from hC)
  have HZ := (show Hid _ from hz)
  clear hC hz
  obtain ⟨n, hnn⟩ : ∃ n, n = sss.length := ⟨_, rfl⟩
  have HN := (show Hid _ from hnn)
  rw [← hnn] at hn ⊢
  unfold maxLen at hn
  clear hnn
  go_enter Try.func43, Try.ntmps43
  go_wp2
  go_loopw [3, 4] (fun x y wr => ∃ (m : Nat) (z : Int), wr = w ∧ y = .int .i64 m ∧ m ≤ n ∧ x = .int .i64 z ∧ 0 ≤ z ∧ z ≤ 1048576) (fun _ y _ => n - (intOf y).toNat)
  case atStart => exact ⟨0, 0, rfl, rfl, Nat.zero_le _, rfl, by omega, by omega⟩
  case round =>
    obtain ⟨m, z, hwr, rfl, hm, rfl, hz0, hz1⟩ := hrel
    subst wr
    by_cases hlt : m < n
    · have hme : m < sss.length := by rw [← HN.out]; exact hlt
      obtain ⟨t, ht⟩ : ∃ t, sss[m]? = some t := ⟨_, List.getElem?_eq_getElem hme⟩
      obtain ⟨b, off, rfl, t1⟩ := Cells.addr (HC.out).1 (show (sss.map fun t => (Value.slice t.1 t.2.2.length t.2.1))[m]? = some (.slice t.1 t.2.2.length t.2.1) by rw [List.getElem?_map, ht]; rfl)
      have htm := List.mem_of_getElem? ht
      have hsz := HZ.out t htm
      have h41 := strs41 w t.1 t.2.1 t.2.2 (HC.out.2 t htm) hsz.1 hsz.2
      have H41 := hidC h41
      clear ht h41 hsz
      obtain ⟨ta, tc, tl⟩ := t
      simp only at t1 H41
      obtain ⟨k, hk⟩ : ∃ k, k = tl.length := ⟨_, rfl⟩
      rw [← hk] at t1 H41
      clear hk htm
      have z1 : (m : Int) < (n : Int) := by omega
      have z2 : (m : Int) ≤ 9223372036854775806 := by omega
      have M : Hid True := trivial
      go_upto_region 6 with (first | (go_at_call 41; refine H41.out.mono ?_; rintro e1 w1 ⟨⟨u, rfl, hu0, hu1⟩, hw⟩; subst w1) | (go_at_call 9; first | (clear M; refine (add9 24 u w (by omega) hu0 (by omega) (by omega)).mono ?_; rintro e1 w1 ⟨⟨q, rfl, hq0, hq1⟩, hw⟩; subst w1) | (refine (add9 z q w hz0 hq0 (by omega) (by omega)).mono ?_; rintro e1 w1 ⟨⟨p, rfl, hp0, hp1⟩, hw⟩; subst w1)))
      by_cases hbig : (1048576 : Int) < p
      · go_wp2
        go_ret
        exact ⟨⟨_, rfl, by omega, by omega⟩, rfl⟩
      · have hp2 : p ≤ 1048576 := by omega
        clear hbig
        go_wp2
        go_roundw
        case rel => exact ⟨m + 1, p, by trivial, by go_num, by omega, rfl, by omega, by omega⟩
        case measure => simp [intOf]; omega
    · obtain rfl : m = n := by omega
      go_wp2
      go_ret
      exact ⟨⟨_, rfl, by omega, by omega⟩, rfl⟩

end Go.Proofs.Qxb6601448a
