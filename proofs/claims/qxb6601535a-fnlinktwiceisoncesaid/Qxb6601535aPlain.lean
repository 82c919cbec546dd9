/-
  PLAIN: what link does to the nexts, as a function of the codes; twice is once. No walk here.
-/
import Derived.Test.Qxb6601535aMem
namespace Go.Proofs.Qxb6601535a

/-- The seen bits and 'repeated' behind k codes. -/
def sn (cs : List Int) (first : Nat) : Nat → List Int × Bool
  | 0 => ([0, 0, 0, 0], false)
  | k + 1 =>
    ((sn cs first k).1.set ((cs.getD (first + k) 0).toNat / 64) (bits .or .u64 ((sn cs first k).1.getD ((cs.getD (first + k) 0).toNat / 64) 0) (IntKind.u64.wrap (2 ^ ((cs.getD (first + k) 0).toNat % 64)))),
     (sn cs first k).2 || (bits .and .u64 ((sn cs first k).1.getD ((cs.getD (first + k) 0).toNat / 64) 0) (IntKind.u64.wrap (2 ^ ((cs.getD (first + k) 0).toNat % 64))) != 0))

theorem sn_len (cs : List Int) (first k : Nat) : (sn cs first k).1.length = 4 := by
  induction k with
  | zero => rfl
  | succ k ih => simp [sn, ih]

def zeros256 : List Int := List.replicate 256 0
theorem zeros256_len : zeros256.length = 256 := List.length_replicate ..

/-- Nexts and last-met places behind t options, taken from the list's end. -/
def lk (cs : List Int) (first count : Nat) (ns : List Int) : Nat → List Int × List Int
  | 0 => (ns, zeros256)
  | t + 1 =>
    ((lk cs first count ns t).1.set (first + (count - 1 - t)) ((lk cs first count ns t).2.getD (cs.getD (first + (count - 1 - t)) 0).toNat 0),
     (lk cs first count ns t).2.set (cs.getD (first + (count - 1 - t)) 0).toNat ((first + (count - 1 - t) + 1 : Nat) : Int))

variable {cs ns : List Int} {first count : Nat}

theorem lk_len (t : Nat) : (lk cs first count ns t).1.length = ns.length := by
  induction t with
  | zero => rfl
  | succ t ih => simp [lk, ih]

theorem lk_met_len (t : Nat) : (lk cs first count ns t).2.length = 256 := by
  induction t with
  | zero => exact zeros256_len
  | succ t ih => simp [lk, ih]

theorem lk_met (ns' : List Int) (t : Nat) : (lk cs first count ns t).2 = (lk cs first count ns' t).2 := by
  induction t with
  | zero => rfl
  | succ t ih => simp only [lk, ih]

theorem lk_at (hfc : first + count ≤ ns.length) (t : Nat) (ht : t ≤ count) (p : Nat) :
    (lk cs first count ns t).1.getD p 0 = if first + count - t ≤ p ∧ p < first + count then (lk cs first count [] (first + count - 1 - p)).2.getD (cs.getD p 0).toNat 0 else ns.getD p 0 := by
  induction t with
  | zero => rw [if_neg (by omega)]; rfl
  | succ t ih =>
    rw [lk, getD_set _ _ _ _ (by rw [lk_len]; omega)]
    by_cases e : first + (count - 1 - t) = p
    · rw [if_pos e, if_pos (by omega), lk_met [] t, e, show first + count - 1 - p = t by omega]
    · rw [if_neg e, ih (by omega)]
      by_cases h : first + count - t ≤ p ∧ p < first + count
      · rw [if_pos h, if_pos (by omega)]
      · rw [if_neg h, if_neg (by omega)]

/-- What link makes of the nexts. -/
def linkF (cs : List Int) (first count : Nat) (ns : List Int) : List Int := if (sn cs first count).2 then (lk cs first count ns count).1 else ns

theorem linkF_len : (linkF cs first count ns).length = ns.length := by
  unfold linkF; split
  · exact lk_len _
  · rfl

theorem linkF_twice (hfc : first + count ≤ ns.length) : linkF cs first count (linkF cs first count ns) = linkF cs first count ns := by
  unfold linkF
  by_cases h : (sn cs first count).2 = true
  · rw [if_pos h, if_pos h]
    apply List.ext_getElem
    · rw [lk_len]
    · intro p h1 h2
      have a := lk_at (cs := cs) (ns := ns) hfc count (Nat.le_refl _) p
      have b := lk_at (cs := cs) (ns := (lk cs first count ns count).1) (by rw [lk_len]; exact hfc) count (Nat.le_refl _) p
      rw [List.getD_eq_getElem?_getD, List.getElem?_eq_getElem h1] at b
      rw [a] at b
      rw [List.getD_eq_getElem?_getD, List.getElem?_eq_getElem h2] at a
      simp only [Option.getD_some] at a b
      rw [a, b]
      split <;> rfl
  · rw [if_neg h, if_neg h]

theorem lk_step {q : Nat} (hq : q < count) : lk cs first count ns (count - q) =
    ((lk cs first count ns (count - (q + 1))).1.set (first + q) ((lk cs first count ns (count - (q + 1))).2.getD (cs.getD (first + q) 0).toNat 0),
     (lk cs first count ns (count - (q + 1))).2.set (cs.getD (first + q) 0).toNat ((first + q + 1 : Nat) : Int)) := by
  have e : count - q = (count - (q + 1)) + 1 := by omega
  have e2 : count - 1 - (count - (q + 1)) = q := by omega
  rw [e, lk, e2]

end Go.Proofs.Qxb6601535a
