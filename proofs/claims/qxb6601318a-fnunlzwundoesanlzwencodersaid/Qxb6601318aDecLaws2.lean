/-
  PLAIN laws for unlzw's writing out: reslicing an owned row; the chain of prefixes. No walk here.
-/
import Derived.Test.Qxb6601318aDecLaws
import Derived.Deep.Onto
namespace Go.Proofs.Qxb6601318a
open Go.RowKit

theorem own_reslice {w : World} {base : Nat} {e : TypeId} {g n m cap : Nat} {xs : List Value} (h : w.ownsRow base e 1 (.slice (some ⟨g, 0, none⟩) n cap) n xs) (hm : n + m ≤ cap) :
    ∃ ys, ys.length = m ∧ base ≤ g ∧ w.ownsRow base e 1 (.slice (some ⟨g, 0, none⟩) (n + m) cap) (n + m) (xs ++ ys) := by
  obtain ⟨hl, ho⟩ := h
  rcases ho with ⟨h', _⟩ | ⟨g', cap', cur, h', hb, hg, hnc, hcm, hcs, htake⟩
  · simp at h'
  · simp only [Value.slice.injEq, Option.some.injEq, Addr.mk.injEq, and_true, true_and] at h'
    obtain ⟨rfl, rfl⟩ := h'
    rw [Nat.mul_one] at htake hl hcs
    refine ⟨(cur.toList.drop n).take m, by simp; omega, hb, by simp [hl]; omega, .inr ⟨g, cap, cur, rfl, hb, hg, hm, hcm, by omega, ?_⟩⟩
    rw [Nat.mul_one, List.take_add, htake]

structure WInv (T : List (List Int)) (c M m r : Nat) (zs : List Value) (cc : Nat) : Prop where
  len : zs.length = m
  rm : r ≤ m
  done : ∀ i, r ≤ i → i < m → zs[i]? = some (.int .u8 ((look T c).getD i 0))
  more : 0 < r → okCode cc M ∧ look T cc = (look T c).take r

theorem winv_start {T : List (List Int)} {c M m : Nat} {zs : List Value} (hc : okCode c M) (hm : m = (look T c).length) (hz : zs.length = m) : WInv T c M m m zs c :=
  ⟨hz, Nat.le_refl _, fun i h1 h2 => by omega, fun _ => ⟨hc, by rw [hm, List.take_length]⟩⟩

theorem winv_step {T : List (List Int)} {c M m r : Nat} {zs : List Value} {cc : Nat} {PL LL HL SL : List Int} (hD : Dec T M PL LL HL SL) (hm : m = (look T c).length) (h : WInv T c M m (r + 1) zs cc) :
    WInv T c M m r (zs.set r (.int .u8 (LL.getD cc 0))) (PL.getD cc 0).toNat := by
  obtain ⟨hok, hlk⟩ := h.more (by omega)
  have hrm := h.rm
  obtain ⟨s, hs, hnext⟩ := dec_chain hD hok
  have hlen : s.length = r := by
    have := congrArg List.length hs
    rw [hlk] at this
    simp at this
    omega
  have hlt : r < (look T c).length := by omega
  have h2 : (look T c).take (r + 1) = s ++ [LL.getD cc 0] := by rw [← hlk]; exact hs
  rw [List.take_succ_eq_append_getElem hlt] at h2
  have h3 := List.append_inj h2 (by simp; omega)
  have hv : (look T c).getD r 0 = LL.getD cc 0 := by
    have := h3.2
    simp only [List.cons.injEq, and_true] at this
    rw [List.getD_eq_getElem?_getD, List.getElem?_eq_getElem hlt]
    exact this
  refine ⟨by simp [h.len], by omega, fun i h1 h4 => ?_, fun hr => ?_⟩
  · by_cases e : i = r
    · subst e
      rw [List.getElem?_set_self (by rw [h.len]; omega), hv]
    · rw [List.getElem?_set_ne (by omega)]
      exact h.done i (by omega) h4
  · have hne : s ≠ [] := by
      intro e
      rw [e] at hlen
      simp at hlen
      omega
    obtain ⟨ho, hl⟩ := hnext hne
    exact ⟨ho, by rw [hl, h3.1]⟩

theorem winv_end {T : List (List Int)} {c M m : Nat} {zs : List Value} {cc : Nat} (hm : m = (look T c).length) (h : WInv T c M m 0 zs cc) : zs = (look T c).map (Value.int .u8) := by
  apply List.ext_getElem?
  intro i
  by_cases hi : i < m
  · rw [h.done i (by omega) hi, List.getElem?_map, List.getD_eq_getElem?_getD, List.getElem?_eq_getElem (by omega)]
    rfl
  · rw [List.getElem?_eq_none (by rw [h.len]; omega), List.getElem?_eq_none (by simp; omega)]

theorem set_right {l ys : List Value} {n q : Nat} (u : Value) (h : l.length = n) : (l ++ ys).set (n + q) u = l ++ ys.set q u := by
  rw [List.set_append, if_neg (by omega), h, Nat.add_sub_cancel_left]

end Go.Proofs.Qxb6601318a
