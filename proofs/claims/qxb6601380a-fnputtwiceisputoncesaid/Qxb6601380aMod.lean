/-
  The model: zzCmp (44), zzIndex (30).
-/
import Derived.Test.Qxb6601380aRows
import Derived.Test.Qxb6601380aPlain
import Derived.Test.Qxb6601380aMem
import Derived.WalkKit
import Derived.WalkSpells
import Derived.WalkLawsBesides
import Derived.BigQuiet
namespace Go.Proofs.Qxb6601380a
open Go.RowKit

theorem lt_at : ∀ (i : Nat) (x y : List UInt8) (hx : i < x.length) (hy : i < y.length), x.take i = y.take i → x[i] < y[i] → x < y
  | _, [], _, hx, _, _, _ => by simp at hx
  | _, _ :: _, [], _, hy, _, _ => by simp at hy
  | 0, a :: x, b :: y, _, _, _, h => List.cons_lt_cons_iff.2 (.inl h)
  | i + 1, a :: x, b :: y, hx, hy, ht, h => by
    simp only [List.take_succ_cons, List.cons.injEq] at ht
    exact List.cons_lt_cons_iff.2 (.inr ⟨ht.1, lt_at i x y (by simpa using hx) (by simpa using hy) ht.2 (by simpa using h)⟩)

theorem lt_pre : ∀ (x y : List UInt8), x = y.take x.length → x.length < y.length → x < y
  | [], [], _, h => by simp at h
  | [], _ :: _, _, _ => List.nil_lt_cons _ _
  | _ :: _, [], _, h => by simp at h
  | a :: x, b :: y, ht, h => by
    simp only [List.length_cons, List.take_succ_cons, List.cons.injEq] at ht
    exact List.cons_lt_cons_iff.2 (.inr ⟨ht.1, lt_pre x y ht.2 (by simpa using h)⟩)

theorem kc_lt {a b : ByteArray} (h : a.data.toList < b.data.toList) : kc a b = -1 := by
  have h := kl_def.2 h
  rcases kc_tri a b with ⟨q, _⟩ | ⟨_, q⟩ | ⟨_, q⟩
  · exact q
  · exact absurd q (kl_ne h)
  · exact absurd q (kl_asymm h)
theorem kc_gt {a b : ByteArray} (h : b.data.toList < a.data.toList) : kc a b = 1 := by
  have h := kl_def.2 h
  rcases kc_tri a b with ⟨_, q⟩ | ⟨_, q⟩ | ⟨q, _⟩
  · exact absurd q (kl_asymm h)
  · exact absurd q (kl_ne h).symm
  · exact q

theorem at_list (a : ByteArray) (i : Nat) (h : i < a.size) : a[i] = a.data.toList[i]'(by simpa using h) := rfl

set_option maxHeartbeats 4000000 in
set_option maxRecDepth 100000 in
theorem cmp44 (a b : ByteArray) (w : World) (ha : a.size ≤ 1000000000) (hb : b.size ≤ 1000000000) :
    Calls Try.prog 44 #[.string a, .string b] w fun e w' => e = .returned (.int .i64 (kc a b)) ∧ ∃ n, w' = w.drewN n := by
  obtain ⟨m, hm⟩ : ∃ m, m = min a.size b.size := ⟨_, rfl⟩
  have hma : m ≤ a.size := by omega
  have hmb : m ≤ b.size := by omega
  by_cases hlt : b.size < a.size
  case' pos => have hm2 : m = b.size := by omega
  case' neg => have hm2 : m = a.size := by omega
  all_goals
    have d1 : decide ((b.size : Int) < (a.size : Int)) = decide (b.size < a.size) := by simp
    go_enter Try.func44, Try.ntmps44
    go_wp2
    go_loopw [6] (fun x wr => ∃ i : Nat, x = .int .i64 i ∧ i ≤ m ∧ a.data.toList.take i = b.data.toList.take i ∧ ∃ n, wr = w.drewN n) (fun x _ => m - (intOf x).toNat)
    case atStart => exact ⟨0, rfl, by omega, by simp, 0, rfl⟩
    case round =>
      obtain ⟨i, rfl, him, htk, nq, rfl⟩ := hrel
      have HT := (show Hid _ from htk)
      clear htk
      have b1 : i ≤ 4000000000 := by omega
      by_cases hi : i < m
      · have e1 : (i : Int) < (a.size : Int) := by omega
        have e2 : (i : Int) < (b.size : Int) := by omega
        have e3 : i < a.size := by omega
        have e4 : i < b.size := by omega
        have la : i < a.data.toList.length := by simpa using e3
        have lb : i < b.data.toList.length := by simpa using e4
        rcases Nat.lt_trichotomy (a[i]).toNat (b[i]).toNat with ht | ht | ht
        · have HR : Hid (kc a b = -1) := kc_lt (lt_at i _ _ la lb HT.out ht)
          go_wp2
          go_quiet (fail)
          go_wp2
          go_ret
          exact ⟨by first | (rw [HR.out]; done) | (rw [HR.out]; rfl), _, by first | rfl | exact World.drewN_drewN _ _ _⟩
        · have t1 : ¬ (a[i]).toNat < (b[i]).toNat := by omega
          have t2 : ¬ (b[i]).toNat < (a[i]).toNat := by omega
          have HR : Hid (a.data.toList.take (i + 1) = b.data.toList.take (i + 1)) := by
            show _ = _
            rw [List.take_add_one, List.take_add_one, HT.out, List.getElem?_eq_getElem la, List.getElem?_eq_getElem lb]
            have : a[i] = b[i] := UInt8.toNat_inj.1 ht
            rw [at_list, at_list] at this
            rw [this]
          clear ht
          go_wp2
          go_quiet (fail)
          go_wp2
          go_quiet (fail)
          go_wp2
          go_roundw
          case rel => exact ⟨i + 1, rfl, by omega, HR.out, _, by first | rfl | rw [World.drewN_drewN, World.drewN_drewN]⟩
          case measure => simp [intOf]; omega
        · have t1 : ¬ (a[i]).toNat < (b[i]).toNat := by omega
          have HR : Hid (kc a b = 1) := kc_gt (lt_at i _ _ lb la HT.out.symm ht)
          go_wp2
          go_quiet (fail)
          go_wp2
          go_quiet (fail)
          go_wp2
          go_ret
          exact ⟨by first | (rw [HR.out]; done) | (rw [HR.out]; rfl), _, by first | rfl | rw [World.drewN_drewN, World.drewN_drewN]⟩
      · obtain rfl : i = m := by omega
        have hlen1 : a.data.toList.length = a.size := by simp
        have hlen2 : b.data.toList.length = b.size := by simp
        have e0 : ¬ ((i : Int) < (i : Int)) := by omega
        rcases Nat.lt_trichotomy a.size b.size with ht | ht | ht
        · first
          | (exfalso; omega)
          | (have HR : Hid (kc a b = -1) := kc_lt (lt_pre _ _ (by have := HT.out; rw [hlen1, ← hm2, ← this, List.take_of_length_le (by omega)]) (by omega))
             have t1 : (a.size : Int) < (b.size : Int) := by omega
             go_wp2
             go_ret
             exact ⟨by first | (rw [HR.out]; done) | (rw [HR.out]; rfl), _, rfl⟩)
        · have HR : Hid (kc a b = 0) := kc_zero.2 (data_inj (by have := HT.out; rw [List.take_of_length_le (by omega), List.take_of_length_le (by omega)] at this; exact this))
          have t1 : ¬ (a.size : Int) < (b.size : Int) := by omega
          have t2 : ¬ (b.size : Int) < (a.size : Int) := by omega
          go_wp2
          go_ret
          exact ⟨by first | (rw [HR.out]; done) | (rw [HR.out]; rfl), _, rfl⟩
        · first
          | (exfalso; omega)
          | (have HR : Hid (kc a b = 1) := kc_gt (lt_pre _ _ (by have := HT.out; rw [hlen2, ← hm2, this, List.take_of_length_le (by omega)]) (by omega))
             have t1 : ¬ (a.size : Int) < (b.size : Int) := by omega
             have t2 : (b.size : Int) < (a.size : Int) := by omega
             go_wp2
             go_ret
             exact ⟨by first | (rw [HR.out]; done) | (rw [HR.out]; rfl), _, rfl⟩)
end Go.Proofs.Qxb6601380a
